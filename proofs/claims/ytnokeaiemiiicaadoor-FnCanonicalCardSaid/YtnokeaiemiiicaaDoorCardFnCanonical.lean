/- FnCanonical: the law's call returns true whatever the arguments, and leaves them as they were; the listed variables read as the program's own text lays them (the tied card). -/
import Derived.Test.YtnokeaiemiiicaaDoorRows
import Derived.Test.YtnokeaiemiiicaaDoorPFnCanonicalx1
import Derived.Test.YtnokeaiemiiicaaDoorPureFnCanonical
import Derived.WalkKit
import Derived.ProofKit
import Derived.OpenShut
import Derived.ShutString
import Derived.ChangeOld
import Derived.Below
import Derived.SizedLaws
import Derived.Lib.LaidU8
import Derived.LaidMore
import Derived.MakeChecks
import Derived.Lay
import Derived.OpenVars
import Derived.Carry
import Derived.SevenTiedAt
import Derived.Test.YtnokeaiemiiicaaDoorTie
import Derived.Test.YtnokeaiemiiicaaDoorCards
import Derived.Test.YtnokeaiemiiicaaDoorEnvFlags
namespace Go.Proofs.YtnokeaiemiiicaaDoor.fnCanonical
open Go.ChangeShapes Go.WideShapes Go.ChangeAt Go.RowKit
open Go.ChangeMaps (open_string shut_string)
set_option linter.unusedVariables false
theorem laidOut : laidOutB Tryd.prog = true := by kernel_rfl
theorem vars_len {H : Type} {enc : TypeId × Value → H} {P : Program} {w : World} {sp : Nat → Bool} : ∀ {ns : List String} {gs : List (DataW H)} {ps : List MemPlace}, DataW.TrodVars enc P w sp ns gs ps → gs.length = ns.length
  | [], [], _, _ => rfl
  | [], _ :: _, _, h => h.elim
  | _ :: _, [], _, h => h.elim
  | _ :: _, _ :: _, _, ⟨_, _, _, _, _, _, _, _, _, _, hs, _⟩ => by simp [vars_len hs]
theorem vars_shape {H : Type} {gs : List (DataW H)} (h : gs.length = 1) : ∃ gv0, gs = [gv0] := by
  match gs, h with
  | [gv0], _ => exact ⟨gv0, rfl⟩
theorem own : ownKnob Tryd.prog.godebug = none := by kernel_rfl
/-- The door's own heap meets the condition: three closed facts. -/
theorem door_met (os : Os) (args : Array Value) : laidMetH Tryd.prog Rows.fnCanonicalRow.laid ((World.laidAll Tryd.prog os Rows.fnCanonicalRow.laid).forCall (fun _ _ => 0) ⟨#[], args, []⟩).memory := by
  rw [MakeChecks.laidMetH_plain _ _ _ (by kernel_rfl)]
  exact laidMet_laidAll _ (by kernel_rfl) (by kernel_rfl)
/-- What the condition gives the walk. -/
theorem env_of_laid {W : World} (h : laidMetH Tryd.prog Rows.fnCanonicalRow.laid W) : Own.EnvC W := by
  rw [MakeChecks.laidMetH_plain _ _ _ (by kernel_rfl)] at h
  have hR : ∀ {n : String} {d : DataW Unit}, (n, d) ∈ Rows.fnCanonicalRow.laid → Lib.VarReads Tryd.prog W n d := fun hm => Lib.laidMet.reads h hm
  exact Own.flags_of_reads (hR (by simp [Rows.fnCanonicalRow]))
set_option maxRecDepth 100000 in
theorem lifted (os : Os) (started : os.Started) (H : Type) (enc : TypeId × Value → H) :
    ReturnsInHanded {} Tryd.checked os 4 .any (fun w args => (Rows.fnCanonicalSpec.pre enc Tryd.prog Tryd.f4 [] false w args ∧ laidMetH Tryd.prog Rows.fnCanonicalRow.laid w) ∧ sizedMet enc Tryd.prog Tryd.f4 (OpenSpec.ofChange Rows.fnCanonicalSpec) false w args) (Rows.fnCanonicalSpec.post enc Tryd.prog Tryd.f4 false true false false) := by
  refine returnsInHanded_of_change_and (C := Tryd.checked) (X := fun w _ => laidMetH Tryd.prog Rows.fnCanonicalRow.laid w) (fun _ _ _ hh h => h.of_heap hh) own started (by kernel_rfl) Tryd.func4
    (ChangeSpec.witness_shaped (enc := enc) (C := Tryd.checked) (os := os) (X := fun w _ => laidMetH Tryd.prog Rows.fnCanonicalRow.laid w) false (World.laidAll Tryd.prog os Rows.fnCanonicalRow.laid) #[.string ByteArray.empty] 8 (World.laidAll_os _ _ _) (World.shaped_of_ZipB (by kernel_rfl) (by kernel_rfl)) (by kernel_rfl) (by kernel_rfl) (by kernel_rfl) (door_met os _)) ?_
  intro W base args ds gs before hval0 hW hcnd hsz0 hL0 _
  have henv := env_of_laid hL0
  clear hL0
  have hsz : (DataW.weightsEach Tryd.prog (Tryd.f4.params.toList ++ Rows.fnCanonicalSpec.plain.varTypes Tryd.prog) (ds ++ gs)).all (· ≤ reachBytes) = true := hsz0
  have hval : ∀ (j : Nat) t v, Tryd.f4.params[j]? = some t → args[j]? = some v → Value.okWide Tryd.prog W .any base t v := hval0
  have hW' := hW
  obtain ⟨p, q, hA0, hV, rfl, hfz, hnd⟩ := hW
  have hA : DataW.TrodAll enc Tryd.prog W 0 (fun _ => true) true Tryd.f4.params.toList args.toList ds p := hA0
  rw [Tryd.params4] at hA hval hsz
  obtain ⟨v0, vs0, d0, ds0, p0, q0, hargs, rfl, rfl, h0, r0⟩ := trodAll_cons hA
  obtain ⟨rfl, rfl, rfl⟩ := trodAll_nil r0
  obtain rfl : args = #[v0] := by cases args; simp_all
  obtain ⟨gv0, rfl⟩ := vars_shape (vars_len hV)
  obtain ⟨a0, rfl, rfl, rfl, y0⟩ := open_string Tryd.underlying9 (hval 0 9 v0 rfl rfl) h0
  have w0 : a0.size ≤ 140737488351232 := by
    have z := sized_string hsz (j := 0) (t := 9) rfl rfl
    rw [Array.length_toList] at z
    exact z
  clear hA0 hval0 hsz0 hsz
  refine (PFnCanonical.laws_FnCanonical.walk Pure.FnCanonical a0 W w0 henv).mono fun e W' ⟨he, bel⟩ => ?_
  subst he
  exact ⟨_, rfl, _, _, _, [], _, _, hW', trodAll_mk1 (shut_bool Tryd.underlying4 _), (trodAll_cons_mk (shut_string Tryd.underlying9 y0) trodAll_mk0), Below.trodVars laidOut bel (by kernel_rfl) hV, bel.frame _, fun h => by cases h⟩
theorem over : Rows.fnCanonicalRow.holds Tryd.pinned (OpenSpec.ofChange Rows.fnCanonicalSpec) :=
  OpenClaim.holds_of_wide 4 Tryd.f4 rfl rfl rfl rfl rfl rfl rfl ⟨rfl, rfl, rfl, rfl, rfl⟩ rfl rfl rfl rfl rfl (by kernel_rfl) Tryd.func4 (by kernel_rfl)
    (of_decide_eq_true (by kernel_rfl)) (by unfold Func.isWrapper; first | (rw [if_pos (by decide +kernel)]; kernel_rfl) | (rw [if_neg (by decide +kernel)]; exact ⟨rfl, rfl⟩))
    (fun os started H enc _ => lifted os started H enc)
theorem proved : Rows.FnCanonicalSaid := over
theorem card : Rows.FnCanonicalCardSaid :=
  Claim7.holds_tied_plain_at .later [] [.data, .data, .data, .data, .pinned, .pinned] true (true, "00850f4f1b54f15960deb4e1c18ae879645b75568f91b9572cb113badef7c105") true
    proved (fun _ h => by cases h) (by kernel_rfl) (fun _ h => by cases h) fnCanonical_row_tie rfl ⟨rfl, rfl⟩ (by kernel_rfl) rfl
    (fun f fn hf hfn => by
      obtain rfl : f = 4 := Option.some.inj ((show Tryd.prog.funcNamed "given.example/pub-datestamp/laws.FnCanonical" = some 4 by kernel_rfl).symm.trans hf) |>.symm
      obtain rfl : fn = Tryd.f4 := (Option.some.inj (Tryd.func4.symm.trans hfn)).symm
      exact ⟨by kernel_rfl, fun j t ht => by
        rw [Tryd.params4] at ht
        have hm : t ∈ [9] := by simpa using Array.mem_of_getElem? ht
        have hall : ([9].all fun u => !Tryd.prog.wantsStandIn u) = true := by kernel_rfl
        exact (show Tryd.prog.wantsStandIn t = false by simpa using List.all_eq_true.1 hall t hm)⟩)
    (by kernel_rfl)
end Go.Proofs.YtnokeaiemiiicaaDoor.fnCanonical
namespace Go.Proofs.YtnokeaiemiiicaaDoor
/-- The tied card, under a short name, for the claim. -/
theorem fnCanonical_card : Rows.FnCanonicalCardSaid := fnCanonical.card
end Go.Proofs.YtnokeaiemiiicaaDoor
