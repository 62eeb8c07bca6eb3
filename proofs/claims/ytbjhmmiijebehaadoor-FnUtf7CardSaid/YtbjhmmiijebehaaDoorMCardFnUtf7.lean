/- What the row lists of utf7.ErrInvalidUTF7, as the callees of FnFromUtf7 ask it. What the row lists of utf8's two tables and of utf7.ErrInvalidUTF7, as the callees of FnUtf7 ask it. FnUtf7: the law's call returns true whatever the arguments, and leaves them as they were; the listed variables read as the program's own text lays them (the tied card). -/
import Derived.Test.YtbjhmmiijebehaaDoorMG
import Derived.Test.YtbjhmmiijebehaaDoorRows
import Derived.Test.YtbjhmmiijebehaaDoorMN
import Derived.Test.YtbjhmmiijebehaaDoorMPX
import Derived.Test.YtbjhmmiijebehaaDoorTie
import Derived.Test.YtbjhmmiijebehaaDoorCards
import Derived.Lib.LaidU8
import Derived.LaidLaws
import Derived.KernelRfl
import Derived.Lib.LaidU8T
import Derived.PinnedBridge
import Derived.WalkKit
import Derived.ProofKit
import Derived.OpenShut
import Derived.ShutString
import Derived.ChangeOld
import Derived.Below
import Derived.SizedLaws
import Derived.LaidMore
import Derived.MakeChecks
import Derived.Lay
import Derived.OpenVars
import Derived.Carry
import Derived.SevenTiedAt
namespace Go.Proofs.YtbjhmmiijebehaaDoor.Own
open Go.RowKit Go.Lib
set_option linter.unusedVariables false
set_option linter.unusedSimpArgs false
theorem utf_of_reads {W : World} (h : VarReads Tryd.prog W "given.example/pub-datestamp/pub/goimap/utf7.ErrInvalidUTF7" Rows.laid_given_example_pub_datestamp_pub_goimap_utf7_ErrInvalidUTF7) : EnvU W := by
  obtain ⟨g, t, cs, fuel, p, hg, hty, hv, hd⟩ := h
  obtain rfl := Option.some.inj ((show Tryd.prog.globalNamed "given.example/pub-datestamp/pub/goimap/utf7.ErrInvalidUTF7" = some 0 by kernel_rfl).symm.trans hg)
  obtain rfl := Option.some.inj ((show (Tryd.prog.globals[0]?).map (·.type) = some 30 by kernel_rfl).symm.trans hty)
  have hi : ∃ ms, Tryd.prog.underlying 30 = some (.interface ms) := by
    have h0 : ((Tryd.prog.underlying 30).bind fun | .interface ms => some ms | _ => none).isSome = true := by kernel_rfl
    revert h0
    match hu : Tryd.prog.underlying 30 with
    | some (.interface ms) => exact fun _ => ⟨ms, rfl⟩
    | some x => cases x <;> simp
    | none => simp
  obtain ⟨ms, hi⟩ := hi
  obtain ⟨f, u, v, hcs, _⟩ := iface_of_trod hi hd
  have hc0 : W.cell? ⟨0, 0, none⟩ = some (.iface u v) := by
    have := World.var?_cell hg hv 0
    rw [show cs = #[Value.iface u v] from by apply Array.ext'; exact hcs] at this
    simpa using this
  exact ⟨u, v, hc0⟩
end Go.Proofs.YtbjhmmiijebehaaDoor.Own

namespace Go.Proofs.YtbjhmmiijebehaaDoor.Own
open Go.RowKit Go.Lib
set_option linter.unusedVariables false
set_option linter.unusedSimpArgs false
def uRen : Go.Shelf.Ren := ⟨id, fun | 5 => 5 | 119 => 64 | 138 => 78 | 139 => 79 | n => n, fun | 3 => 3 | 4 => 4 | n => n⟩
theorem u_types : U8Types Tryd.prog uRen := ⟨by kernel_rfl, by kernel_rfl, by kernel_rfl, by kernel_rfl⟩
theorem u_extra : U8Extra Tryd.prog uRen := ⟨by kernel_rfl, by kernel_rfl, by kernel_rfl, by kernel_rfl, by kernel_rfl, by kernel_rfl, by kernel_rfl⟩
theorem acc_data : (Rows.laid_unicode_utf8_acceptRanges : DataW Unit) = acceptData := by kernel_rfl
theorem tabs_of_reads {W : World} (h1 : VarReads Tryd.prog W "unicode/utf8.first" Rows.laid_unicode_utf8_first) (h2 : VarReads Tryd.prog W "unicode/utf8.acceptRanges" Rows.laid_unicode_utf8_acceptRanges) :
    Lib.Utf8Tabs 3 4 W := by
  have e1 : Rows.laid_unicode_utf8_first = firstData := Pinned.utf8First_eq
  rw [e1] at h1
  rw [acc_data] at h2
  exact utf8Tabs_of_readsT u_types u_extra h1 h2
theorem envT_of_reads {W : World} (h1 : VarReads Tryd.prog W "unicode/utf8.first" Rows.laid_unicode_utf8_first) (h2 : VarReads Tryd.prog W "unicode/utf8.acceptRanges" Rows.laid_unicode_utf8_acceptRanges)
    (h3 : VarReads Tryd.prog W "given.example/pub-datestamp/pub/goimap/utf7.ErrInvalidUTF7" Rows.laid_given_example_pub_datestamp_pub_goimap_utf7_ErrInvalidUTF7) : EnvT W := ⟨utf_of_reads h3, tabs_of_reads h1 h2⟩
end Go.Proofs.YtbjhmmiijebehaaDoor.Own

namespace Go.Proofs.YtbjhmmiijebehaaDoor.fnUtf7
open Go.ChangeShapes Go.WideShapes Go.ChangeAt Go.RowKit
open Go.ChangeMaps (open_string shut_string)
set_option linter.unusedVariables false
theorem laidOut : laidOutB Tryd.prog = true := by kernel_rfl
theorem vars_len {H : Type} {enc : TypeId × Value → H} {P : Program} {w : World} {sp : Nat → Bool} : ∀ {ns : List String} {gs : List (DataW H)} {ps : List MemPlace}, DataW.TrodVars enc P w sp ns gs ps → gs.length = ns.length
  | [], [], _, _ => rfl
  | [], _ :: _, _, h => h.elim
  | _ :: _, [], _, h => h.elim
  | _ :: _, _ :: _, _, ⟨_, _, _, _, _, _, _, _, _, _, hs, _⟩ => by simp [vars_len hs]
theorem vars_shape {H : Type} {gs : List (DataW H)} (h : gs.length = 3) : ∃ gv0 gv1 gv2, gs = [gv0, gv1, gv2] := by
  match gs, h with
  | [gv0, gv1, gv2], _ => exact ⟨gv0, gv1, gv2, rfl⟩
theorem own : ownKnob Tryd.prog.godebug = none := by kernel_rfl
/-- The door's own heap meets the condition: three closed facts. -/
theorem door_met (os : Os) (args : Array Value) : laidMetH Tryd.prog Rows.fnUtf7Row.laid ((World.laidAll Tryd.prog os Rows.fnUtf7Row.laid).forCall (fun _ _ => 0) ⟨#[], args, []⟩).memory := by
  rw [MakeChecks.laidMetH_plain _ _ _ (by kernel_rfl)]
  exact laidMet_laidAll _ (by kernel_rfl) (by kernel_rfl)
/-- What the condition gives the walk. -/
theorem env_of_laid {W : World} (h : laidMetH Tryd.prog Rows.fnUtf7Row.laid W) : Own.EnvT W := by
  rw [MakeChecks.laidMetH_plain _ _ _ (by kernel_rfl)] at h
  have hR : ∀ {n : String} {d : DataW Unit}, (n, d) ∈ Rows.fnUtf7Row.laid → Lib.VarReads Tryd.prog W n d := fun hm => Lib.laidMet.reads h hm
  exact Own.envT_of_reads (hR (by simp [Rows.fnUtf7Row])) (hR (by simp [Rows.fnUtf7Row])) (hR (by simp [Rows.fnUtf7Row]))
set_option maxRecDepth 100000 in
theorem lifted (os : Os) (started : os.Started) (H : Type) (enc : TypeId × Value → H) :
    ReturnsInHanded {} Tryd.checked os 4 .any (fun w args => (Rows.fnUtf7Spec.pre enc Tryd.prog Tryd.f4 [] false w args ∧ laidMetH Tryd.prog Rows.fnUtf7Row.laid w) ∧ sizedMet enc Tryd.prog Tryd.f4 (OpenSpec.ofChange Rows.fnUtf7Spec) false w args) (Rows.fnUtf7Spec.post enc Tryd.prog Tryd.f4 false true false false) := by
  refine returnsInHanded_of_change_and (C := Tryd.checked) (X := fun w _ => laidMetH Tryd.prog Rows.fnUtf7Row.laid w) (fun _ _ _ hh h => h.of_heap hh) own started (by kernel_rfl) Tryd.func4
    (ChangeSpec.witness_shaped (enc := enc) (C := Tryd.checked) (os := os) (X := fun w _ => laidMetH Tryd.prog Rows.fnUtf7Row.laid w) false (World.laidAll Tryd.prog os Rows.fnUtf7Row.laid) #[.string ByteArray.empty] 8 (World.laidAll_os _ _ _) (World.shaped_of_ZipB (by kernel_rfl) (by kernel_rfl)) (by kernel_rfl) (by kernel_rfl) (by kernel_rfl) (door_met os _)) ?_
  intro W base args ds gs before hval0 hW hcnd hsz0 hL0 _
  have henv := env_of_laid hL0
  clear hL0
  have hsz : (DataW.weightsEach Tryd.prog (Tryd.f4.params.toList ++ Rows.fnUtf7Spec.plain.varTypes Tryd.prog) (ds ++ gs)).all (· ≤ reachBytes) = true := hsz0
  have hval : ∀ (j : Nat) t v, Tryd.f4.params[j]? = some t → args[j]? = some v → Value.okWide Tryd.prog W .any base t v := hval0
  have hW' := hW
  obtain ⟨p, q, hA0, hV, rfl, hfz, hnd⟩ := hW
  have hA : DataW.TrodAll enc Tryd.prog W 0 (fun _ => true) true Tryd.f4.params.toList args.toList ds p := hA0
  rw [Tryd.params4] at hA hval hsz
  obtain ⟨v0, vs0, d0, ds0, p0, q0, hargs, rfl, rfl, h0, r0⟩ := trodAll_cons hA
  obtain ⟨rfl, rfl, rfl⟩ := trodAll_nil r0
  obtain rfl : args = #[v0] := by cases args; simp_all
  obtain ⟨gv0, gv1, gv2, rfl⟩ := vars_shape (vars_len hV)
  obtain ⟨a0, rfl, rfl, rfl, y0⟩ := open_string Tryd.underlying9 (hval 0 9 v0 rfl rfl) h0
  have w0 : a0.size ≤ 140737488351232 := by
    have z := sized_string hsz (j := 0) (t := 9) rfl rfl
    rw [Array.length_toList] at z
    exact z
  clear hA0 hval0 hsz0 hsz
  refine (PFnUtf7.laws_FnUtf7.walk Pure.FnUtf7 a0 W w0 henv).mono fun e W' ⟨he, bel⟩ => ?_
  subst he
  exact ⟨_, rfl, _, _, _, [], _, _, hW', trodAll_mk1 (shut_bool Tryd.underlying4 _), (trodAll_cons_mk (shut_string Tryd.underlying9 y0) trodAll_mk0), Below.trodVars laidOut bel (by kernel_rfl) hV, bel.frame _, fun h => by cases h⟩
theorem over : Rows.fnUtf7Row.holds Tryd.pinned (OpenSpec.ofChange Rows.fnUtf7Spec) :=
  OpenClaim.holds_of_wide 4 Tryd.f4 rfl rfl rfl rfl rfl rfl rfl ⟨rfl, rfl, rfl, rfl, rfl⟩ rfl rfl rfl rfl rfl (by kernel_rfl) Tryd.func4 (by kernel_rfl)
    (of_decide_eq_true (by kernel_rfl)) (by unfold Func.isWrapper; first | (rw [if_pos (by decide +kernel)]; kernel_rfl) | (rw [if_neg (by decide +kernel)]; exact ⟨rfl, rfl⟩))
    (fun os started H enc _ => lifted os started H enc)
theorem proved : Rows.FnUtf7Said := over
theorem card : Rows.FnUtf7CardSaid :=
  Claim7.holds_tied_plain_at .later [] [.data, .sentinel, .sentinel, .sentinel, .pinned] true (true, "bebd33b0adf655a18ca6b32a61720eccf4224f32dc8f8c0baf26cd9319777657") false
    proved (fun _ h => by cases h) (by kernel_rfl) (fun _ h => by cases h) fnUtf7_row_tie rfl ⟨rfl, rfl⟩ (by kernel_rfl) rfl
    (fun f fn hf hfn => by
      obtain rfl : f = 4 := Option.some.inj ((show Tryd.prog.funcNamed "given.example/pub-datestamp/laws.FnUtf7" = some 4 by kernel_rfl).symm.trans hf) |>.symm
      obtain rfl : fn = Tryd.f4 := (Option.some.inj (Tryd.func4.symm.trans hfn)).symm
      exact ⟨by kernel_rfl, fun j t ht => by
        rw [Tryd.params4] at ht
        have hm : t ∈ [9] := by simpa using Array.mem_of_getElem? ht
        have hall : ([9].all fun u => !Tryd.prog.wantsStandIn u) = true := by kernel_rfl
        exact (show Tryd.prog.wantsStandIn t = false by simpa using List.all_eq_true.1 hall t hm)⟩)
    (by kernel_rfl)
end Go.Proofs.YtbjhmmiijebehaaDoor.fnUtf7
namespace Go.Proofs.YtbjhmmiijebehaaDoor
/-- The tied card, under a short name, for the claim. -/
theorem fnUtf7_card : Rows.FnUtf7CardSaid := fnUtf7.card
end Go.Proofs.YtbjhmmiijebehaaDoor
