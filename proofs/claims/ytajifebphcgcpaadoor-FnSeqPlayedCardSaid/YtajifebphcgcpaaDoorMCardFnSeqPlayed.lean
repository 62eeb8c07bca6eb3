/- FnSeqPlayed: the law's call returns true whatever the arguments, and leaves them as they were; the listed variables read as the program's own text lays them (the tied card). -/
import Derived.Test.YtajifebphcgcpaaDoorRows
import Derived.Test.YtajifebphcgcpaaDoorMS
import Derived.Test.YtajifebphcgcpaaDoorTie
import Derived.Test.YtajifebphcgcpaaDoorCards
import Derived.Test.YtajifebphcgcpaaDoorMF
import Derived.Test.YtajifebphcgcpaaDoorMP
import Derived.WalkKit
import Derived.ProofKit
import Derived.OpenShut
import Derived.ShutString
import Derived.ChangeOld
import Derived.Below
import Derived.SizedLaws
import Derived.SliceStrings
import Derived.Lib.LaidU8
import Derived.LaidMore
import Derived.MakeChecks
import Derived.SevenTiedAt
namespace Go.Proofs.YtajifebphcgcpaaDoor.fnSeqPlayed
open Go.ChangeShapes Go.WideShapes Go.ChangeAt Go.RowKit
open Go.ChangeMaps (open_string shut_string)
set_option linter.unusedVariables false
theorem own : ownKnob Tryd.prog.godebug = none := by kernel_rfl
/-- The door's own heap meets the condition: three closed facts. -/
theorem door_met (os : Os) (args : Array Value) : laidMetH Tryd.prog Rows.fnSeqPlayedRow.laid ((World.doorLaid Tryd.prog 62 os).forCall (fun _ _ => 0) ⟨#[], args, []⟩).memory :=
  laidMetH_of_parts3 (fuel := 8) (laidMet_of_run' 8 (by kernel_rfl) (by kernel_rfl)) (by kernel_rfl) (by kernel_rfl)
/-- What the condition gives the walk. -/
theorem env_of_laid {W : World} (h : laidMetH Tryd.prog Rows.fnSeqPlayedRow.laid W) : Own.EnvT W := by
  rw [MakeChecks.laidMetH_plain _ _ _ (by kernel_rfl)] at h
  have hR : ∀ {n : String} {d : DataW Unit}, (n, d) ∈ Rows.fnSeqPlayedRow.laid → Lib.VarReads Tryd.prog W n d := fun hm => Lib.laidMet.reads h hm
  exact ⟨Own.envS_of_reads (hR (by simp [Rows.fnSeqPlayedRow])) (hR (by simp [Rows.fnSeqPlayedRow])), Own.env_of_reads (hR (by simp [Rows.fnSeqPlayedRow]))⟩
theorem laidOut : laidOutB Tryd.prog = true := by kernel_rfl
set_option maxRecDepth 100000 in
theorem lifted (os : Os) (started : os.Started) (H : Type) (enc : TypeId × Value → H) :
    ReturnsInHanded {} Tryd.checked os 6 .any (fun w args => (Rows.fnSeqPlayedSpec.pre enc Tryd.prog Tryd.f6 [] false w args ∧ laidMetH Tryd.prog Rows.fnSeqPlayedRow.laid w) ∧ sizedMet enc Tryd.prog Tryd.f6 (OpenSpec.ofChange Rows.fnSeqPlayedSpec) false w args) (Rows.fnSeqPlayedSpec.post enc Tryd.prog Tryd.f6 false true false false) := by
  refine returnsInHanded_of_change_and (C := Tryd.checked) (X := fun w _ => laidMetH Tryd.prog Rows.fnSeqPlayedRow.laid w) (fun _ _ _ hh h => h.of_heap hh) own started (by kernel_rfl) Tryd.func6
    (ChangeSpec.witness_shaped (enc := enc) (C := Tryd.checked) (os := os) (X := fun w _ => laidMetH Tryd.prog Rows.fnSeqPlayedRow.laid w) false (World.doorLaid Tryd.prog 62 os) #[.slice none 0 0] 8 rfl (World.shaped_of_RefB (by kernel_rfl) (by kernel_rfl)) (by kernel_rfl) (by kernel_rfl) (by kernel_rfl) (door_met os _)) ?_
  intro W base args ds gs before hval0 hW hcnd hsz0 hL0 _
  have henv := env_of_laid hL0
  clear hL0
  have hsz : (DataW.weightsEach Tryd.prog (Tryd.f6.params.toList ++ Rows.fnSeqPlayedSpec.plain.varTypes Tryd.prog) (ds ++ gs)).all (· ≤ reachBytes) = true := hsz0
  have hval : ∀ (j : Nat) t v, Tryd.f6.params[j]? = some t → args[j]? = some v → Value.okWide Tryd.prog W .any base t v := hval0
  have hW' := hW
  obtain ⟨p, q, hA0, hV, rfl, hfz, hnd⟩ := hW
  have hA : DataW.TrodAll enc Tryd.prog W 0 (fun _ => true) true Tryd.f6.params.toList args.toList ds p := hA0
  rw [Tryd.params6] at hA hval hsz
  obtain ⟨v0, vs0, d0, ds0, p0, q0, hargs, rfl, rfl, h0, r0⟩ := trodAll_cons hA
  obtain ⟨rfl, rfl, rfl⟩ := trodAll_nil r0
  obtain rfl : args = #[v0] := by cases args; simp_all
  obtain ⟨rfl, rfl⟩ := trodVars_none hV
  obtain ⟨a0, len0, cap0, rfl⟩ := okWide_slice Tryd.underlying41 (hval 0 41 v0 rfl rfl)
  have k0 := h0
  have lt0 : ∀ x ∈ p0, x.block < W.heap.size := by obtain ⟨m, hm⟩ := k0; exact DataW.trod_lt m _ _ _ hm
  obtain ⟨l0, e0, n0, w0⟩ := Go.Proofs.YtajifebphcgcpaaDoor.Own.open_steps h0
  subst e0
  clear hA0 hval0 hsz0 hsz
  refine (Go.Proofs.YtajifebphcgcpaaDoor.Own.fnSeqPlayed_walk l0 n0 a0 cap0 W w0 henv).mono fun e W' ⟨he, bel⟩ => ?_
  subst he
  exact ⟨_, rfl, _, _, _, [], _, [], hW', trodAll_mk1 (shut_bool Tryd.underlying4 _), (trodAll_cons_mk (Below.trod laidOut (by kernel_rfl) (of_decide_eq_true (by kernel_rfl)) k0 bel lt0) trodAll_mk0), rfl, bel.frame _, fun h => by cases h⟩
theorem over : Rows.fnSeqPlayedRow.holds Tryd.pinned (OpenSpec.ofChange Rows.fnSeqPlayedSpec) :=
  OpenClaim.holds_of_wide 6 Tryd.f6 rfl rfl rfl rfl rfl rfl rfl ⟨rfl, rfl, rfl, rfl, rfl⟩ rfl rfl rfl rfl rfl (by kernel_rfl) Tryd.func6 (by kernel_rfl)
    (of_decide_eq_true (by kernel_rfl)) (by unfold Func.isWrapper; first | (rw [if_pos (by decide +kernel)]; kernel_rfl) | (rw [if_neg (by decide +kernel)]; exact ⟨rfl, rfl⟩))
    (fun os started H enc _ => lifted os started H enc)
theorem proved : Rows.FnSeqPlayedSaid := over
theorem card : Rows.FnSeqPlayedCardSaid :=
  Claim7.holds_tied_plain_at .later [] [.data, .data, .data, .sentinel, .sentinel] true (true, "f24a1fdb3d8bca0b21c6abd75b661d7b505a05057f3e760f66ecf62e75671951") true
    proved (fun _ h => by cases h) (by kernel_rfl) (fun _ h => by cases h) fnSeqPlayed_row_tie rfl ⟨rfl, rfl⟩ (by kernel_rfl) rfl
    (fun f fn hf hfn => by
      obtain rfl : f = 6 := Option.some.inj ((show Tryd.prog.funcNamed "given.example/pub-datestamp/laws.FnSeqPlayed" = some 6 by kernel_rfl).symm.trans hf) |>.symm
      obtain rfl : fn = Tryd.f6 := (Option.some.inj (Tryd.func6.symm.trans hfn)).symm
      exact ⟨by kernel_rfl, fun j t ht => by
        rw [Tryd.params6] at ht
        have hm : t ∈ [41] := by simpa using Array.mem_of_getElem? ht
        have hall : ([41].all fun u => !Tryd.prog.wantsStandIn u) = true := by kernel_rfl
        exact (show Tryd.prog.wantsStandIn t = false by simpa using List.all_eq_true.1 hall t hm)⟩)
    (by kernel_rfl)
end Go.Proofs.YtajifebphcgcpaaDoor.fnSeqPlayed
namespace Go.Proofs.YtajifebphcgcpaaDoor
/-- The tied card, under a short name, for the claim. -/
theorem fnSeqPlayed_card : Rows.FnSeqPlayedCardSaid := fnSeqPlayed.card
end Go.Proofs.YtajifebphcgcpaaDoor
