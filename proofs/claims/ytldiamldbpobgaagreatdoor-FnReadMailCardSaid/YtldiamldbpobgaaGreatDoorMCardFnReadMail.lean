/- FnReadMail: the law's call returns true whatever the arguments, and leaves them as they were; the listed variables read as the program's own text lays them (the tied card). -/
import Derived.Test.YtldiamldbpobgaaGreatDoorRows
import Derived.Test.YtldiamldbpobgaaGreatDoorML
import Derived.Test.YtldiamldbpobgaaGreatDoorTie
import Derived.Test.YtldiamldbpobgaaGreatDoorCards
import Derived.Test.YtldiamldbpobgaaGreatDoorMJ
import Derived.WalkKit
import Derived.ProofKit
import Derived.OpenShut
import Derived.ShutString
import Derived.ChangeOld
import Derived.Below
import Derived.SizedLaws
import Derived.SliceStrings
import Derived.Lib.LaidU8
import Derived.LaidMore
import Derived.MakeChecks
import Derived.Lay
import Derived.SevenTiedAt
namespace Go.Proofs.YtldiamldbpobgaaGreatDoor.fnReadMail
open Go.ChangeShapes Go.WideShapes Go.ChangeAt Go.RowKit
open Go.ChangeMaps (open_string shut_string)
set_option linter.unusedVariables false
theorem own : ownKnob Tryz.prog.godebug = none := by kernel_rfl
/-- The door's own heap meets the condition: three closed facts. -/
theorem door_met (os : Os) (args : Array Value) : laidMetH Tryz.prog Rows.fnReadMailRow.laid ((World.laidAll Tryz.prog os Rows.fnReadMailRow.laid).forCall (fun _ _ => 0) ⟨#[], args, []⟩).memory := by
  rw [MakeChecks.laidMetH_plain _ _ _ (by kernel_rfl)]
  exact laidMet_laidAll _ (by kernel_rfl) (by kernel_rfl)
/-- What the condition gives the walk. -/
theorem env_of_laid {W : World} (h : laidMetH Tryz.prog Rows.fnReadMailRow.laid W) : Own.EnvX W := by
  rw [MakeChecks.laidMetH_plain _ _ _ (by kernel_rfl)] at h
  have hR : ∀ {n : String} {d : DataW Unit}, (n, d) ∈ Rows.fnReadMailRow.laid → Lib.VarReads Tryz.prog W n d := fun hm => Lib.laidMet.reads h hm
  exact Own.envX_of_reads (hR (by simp [Rows.fnReadMailRow]))
set_option maxRecDepth 100000 in
theorem lifted (os : Os) (started : os.Started) (H : Type) (enc : TypeId × Value → H) :
    ReturnsInHanded {} Tryz.checked os 4 .any (fun w args => (Rows.fnReadMailSpec.pre enc Tryz.prog Tryz.f4 [] false w args ∧ laidMetH Tryz.prog Rows.fnReadMailRow.laid w) ∧ sizedMet enc Tryz.prog Tryz.f4 (OpenSpec.ofChange Rows.fnReadMailSpec) false w args) (Rows.fnReadMailSpec.post enc Tryz.prog Tryz.f4 false true false false) := by
  refine returnsInHanded_of_change_and (C := Tryz.checked) (X := fun w _ => laidMetH Tryz.prog Rows.fnReadMailRow.laid w) (fun _ _ _ hh h => h.of_heap hh) own started (by kernel_rfl) Tryz.func4
    (ChangeSpec.witness_shaped (enc := enc) (C := Tryz.checked) (os := os) (X := fun w _ => laidMetH Tryz.prog Rows.fnReadMailRow.laid w) false (World.laidAll Tryz.prog os Rows.fnReadMailRow.laid) #[.string ByteArray.empty] 8 (World.laidAll_os _ _ _) (World.shaped_of_ZipB (by kernel_rfl) (by kernel_rfl)) (by kernel_rfl) (by kernel_rfl) (by kernel_rfl) (door_met os _)) ?_
  intro W base args ds gs before hval0 hW hcnd hsz0 hL0 _
  have henv := env_of_laid hL0
  clear hL0
  have hsz : (DataW.weightsEach Tryz.prog (Tryz.f4.params.toList ++ Rows.fnReadMailSpec.plain.varTypes Tryz.prog) (ds ++ gs)).all (· ≤ reachBytes) = true := hsz0
  have hval : ∀ (j : Nat) t v, Tryz.f4.params[j]? = some t → args[j]? = some v → Value.okWide Tryz.prog W .any base t v := hval0
  have hW' := hW
  obtain ⟨p, q, hA0, hV, rfl, hfz, hnd⟩ := hW
  have hA : DataW.TrodAll enc Tryz.prog W 0 (fun _ => true) true Tryz.f4.params.toList args.toList ds p := hA0
  rw [Tryz.params4] at hA hval hsz
  obtain ⟨v0, vs0, d0, ds0, p0, q0, hargs, rfl, rfl, h0, r0⟩ := trodAll_cons hA
  obtain ⟨rfl, rfl, rfl⟩ := trodAll_nil r0
  obtain rfl : args = #[v0] := by cases args; simp_all
  obtain ⟨rfl, rfl⟩ := trodVars_none hV
  obtain ⟨a0, rfl, rfl, rfl, y0⟩ := open_string Tryz.underlying9 (hval 0 9 v0 rfl rfl) h0
  have w0 : a0.size ≤ 140737488351232 := by
    have z := sized_string hsz (j := 0) (t := 9) rfl rfl
    rw [Array.length_toList] at z
    exact z
  clear hA0 hval0 hsz0 hsz
  refine (Go.Proofs.YtldiamldbpobgaaGreatDoor.Own.fnReadMail_walk a0 W w0 henv).mono fun e W' ⟨he, bel⟩ => ?_
  subst he
  exact ⟨_, rfl, _, _, _, [], _, [], hW', trodAll_mk1 (shut_bool Tryz.underlying4 _), (trodAll_cons_mk (shut_string Tryz.underlying9 y0) trodAll_mk0), rfl, bel.frame _, fun h => by cases h⟩
theorem over : Rows.fnReadMailRow.holds Tryz.pinned (OpenSpec.ofChange Rows.fnReadMailSpec) :=
  OpenClaim.holds_of_wide 4 Tryz.f4 rfl rfl rfl rfl rfl rfl rfl ⟨rfl, rfl, rfl, rfl, rfl⟩ rfl rfl rfl rfl rfl (by kernel_rfl) Tryz.func4 (by kernel_rfl)
    (of_decide_eq_true (by kernel_rfl)) (by unfold Func.isWrapper; first | (rw [if_pos (by decide +kernel)]; kernel_rfl) | (rw [if_neg (by decide +kernel)]; exact ⟨rfl, rfl⟩))
    (fun os started H enc _ => lifted os started H enc)
theorem proved : Rows.FnReadMailSaid := over
theorem card : Rows.FnReadMailCardSaid :=
  Claim7.holds_tied_plain_at .later [] [.data, .listed, .data, .data, .data, .pinned, .pinned] true (true, "fff30e719e6a7a3b202ede9db74d4e692d11b6f5252ef1bab4776aa689f07926") false
    proved (fun _ h => by cases h) (by kernel_rfl) (fun _ h => by cases h) fnReadMail_row_tie rfl ⟨rfl, rfl⟩ (by kernel_rfl) rfl
    (fun f fn hf hfn => by
      obtain rfl : f = 4 := Option.some.inj ((show Tryz.prog.funcNamed "given.example/pub-datestamp/laws.FnReadMail" = some 4 by kernel_rfl).symm.trans hf) |>.symm
      obtain rfl : fn = Tryz.f4 := (Option.some.inj (Tryz.func4.symm.trans hfn)).symm
      exact ⟨by kernel_rfl, fun j t ht => by
        rw [Tryz.params4] at ht
        have hm : t ∈ [9] := by simpa using Array.mem_of_getElem? ht
        have hall : ([9].all fun u => !Tryz.prog.wantsStandIn u) = true := by kernel_rfl
        exact (show Tryz.prog.wantsStandIn t = false by simpa using List.all_eq_true.1 hall t hm)⟩)
    (by kernel_rfl)
end Go.Proofs.YtldiamldbpobgaaGreatDoor.fnReadMail
namespace Go.Proofs.YtldiamldbpobgaaGreatDoor
/-- The tied card, under a short name, for the claim. -/
theorem fnReadMail_card : Rows.FnReadMailCardSaid := fnReadMail.card
end Go.Proofs.YtldiamldbpobgaaGreatDoor
