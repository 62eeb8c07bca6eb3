/- FnUtf7 holds at every text, plainly: the package writes what the reference writes, and reads it back. No condition beyond the text's size. -/
import Derived.Test.YtbjhmmiijebehaaDoorProg
import Derived.Test.YtbjhmmiijebehaaDoorMN
import Derived.Test.YtbjhmmiijebehaaDoorWWords
import Derived.Test.YtbjhmmiijebehaaDoorWLast
import Derived.Test.YtbjhmmiijebehaaDoorWTab
import Derived.Test.YtbjhmmiijebehaaDoorWFour
import Derived.Test.YtbjhmmiijebehaaDoorWQPut
import Derived.Test.YtbjhmmiijebehaaDoorWApart
import Derived.Test.YtbjhmmiijebehaaDoorWArr
import Derived.Test.YtbjhmmiijebehaaDoorWZeros
import Derived.Test.YtbjhmmiijebehaaDoorWFoot
import Derived.Test.YtbjhmmiijebehaaDoorWKept
import Derived.Test.YtbjhmmiijebehaaDoorWShare
import Derived.Test.YtbjhmmiijebehaaDoorWN
import Derived.Test.YtbjhmmiijebehaaDoorWFootNe
import Derived.Test.YtbjhmmiijebehaaDoorWAt
import Derived.Test.YtbjhmmiijebehaaDoorWEqStruct
import Derived.Test.YtbjhmmiijebehaaDoorWRepsOne
import Derived.Test.YtbjhmmiijebehaaDoorWInv
import Derived.Test.YtbjhmmiijebehaaDoorWInvWords
import Derived.Test.YtbjhmmiijebehaaDoorWGuard
import Derived.Test.YtbjhmmiijebehaaDoorWNEv
import Derived.Test.YtbjhmmiijebehaaDoorWMore
import Derived.Below
import Derived.Deep.Draws
import Derived.Deep.AppendLies
import Derived.Maps.AppendAt
import Derived.OwnWalk
import Derived.Laws.BytesArg
import Derived.Laws.MakeOwn
import Derived.Laws.OwnMore
import Derived.Deep.OwnRows
import Derived.Tactics
import Derived.Lib.ConvBytes
import Derived.Laws.Slices
import Derived.WalkKit
import Derived.KernelRfl
import Derived.RowKit3
import Derived.Deep.LoopGhost
import Derived.Deep.QuietTactic
import Derived.BigQuiet
import Derived.WideLaws
import Derived.Deep.DeepCutAuto
import Derived.Deep.CutBlock
import Derived.Deep.RegionHeld3
import Derived.Laws.Rows
import Derived.Lib.AppendStr
import Derived.ArgAppend
import Derived.Laws.IdiomCopy
import Derived.OrdersHeld
import Derived.Laws.BitsLemmas
import Derived.RowKit
namespace Go.Proofs.YtbjhmmiijebehaaDoor.PFnUtf7
open Go.RowKit Go.Proofs.YtbjhmmiijebehaaDoorW.PrintWords Go.Proofs.YtbjhmmiijebehaaDoorW.PrintLast Go.Proofs.YtbjhmmiijebehaaDoorW.PrintMore
attribute [local go_sem] max2_int min2_int max_two min_two max_three min_three max_four min_four   -- for this text's walks alone
set_option linter.unusedVariables false
set_option linter.unusedSimpArgs false



def errW : Option Int → Value
  | none => .nilIface
  | some c => .iface 0 (.int .i64 c)
theorem errW_none : errW none = .nilIface := rfl
theorem errW_some (c : Int) : errW (some c) = .iface 0 (.int .i64 c) := rfl

-- the values' own types

end Go.Proofs.YtbjhmmiijebehaaDoor.PFnUtf7

namespace Go.Proofs.YtbjhmmiijebehaaDoor.PFnUtf7
open Go.RowKit Go.Proofs.YtbjhmmiijebehaaDoorW.PrintWords Go.Proofs.YtbjhmmiijebehaaDoorW.PrintLast Go.Proofs.YtbjhmmiijebehaaDoorW.PrintMore
attribute [local go_sem] max2_int min2_int max_two min_two max_three min_three max_four min_four   -- for this text's walks alone
set_option linter.unusedVariables false
set_option linter.unusedSimpArgs false

/-! ### laws_FnUtf7: function 4 -/
def laws_FnUtf7.j0 : Nat → ByteArray → Bool → Option (Bool)
  | 0, _, _ => none
  | k + 1, x0, x17 => if x17 = true then (some true) else ((Own.impl_Utf7.f x0).bind fun bt102 => ((Own.impl_FromUtf7T.f bt102.1).bind fun bt104 => (if bt102.2 = true then (if bt104.2 = true then ((Own.spec_Utf7OfF.f x0).bind fun t106 => (if bt102.1.toList = t106.toList then (some (bt104.1.toList == x0.toList)) else (some false))) else (some false)) else (some false))))
def laws_FnUtf7.f (k : Nat) (a0 : ByteArray) : Option (Bool) := if (a0.size : Int) > 2147483647 then (some true) else (if (a0.size : Int) > 500 then (laws_FnUtf7.j0 k a0 true) else ((Own.spec_Utf9F.f a0).bind fun t101 => (laws_FnUtf7.j0 k a0 (!t101))))
theorem laws_FnUtf7.mono_l : ∀ k, (∀ y0 y1, LeO (laws_FnUtf7.j0 k y0 y1) (laws_FnUtf7.j0 (k + 1) y0 y1))
  | 0 => fun _ _ r h => by simp [laws_FnUtf7.j0] at h
  | k + 1 => by
    have ih0 := laws_FnUtf7.mono_l k
    · intro y0 y1
      unfold laws_FnUtf7.j0
      repeat' first
      | (with_reducible exact ih0 _ _)
      | (with_reducible exact LeO.refl _)
      | (with_reducible exact LeO.none _)
      | (with_reducible refine LeO.ite ?_ ?_)
      | (with_reducible refine LeO.bind ?_ (fun _ => ?_))
      | exact ih0 _ _
      | exact LeO.none _
      | refine LeO.ite ?_ ?_
      | refine LeO.bind ?_ (fun _ => ?_)
theorem laws_FnUtf7.mono : ∀ a0 k, LeO (laws_FnUtf7.f k a0) (laws_FnUtf7.f (k + 1) a0) := by
  intro a0 k
  have ih0 := laws_FnUtf7.mono_l k
  unfold laws_FnUtf7.f
  repeat' first
      | (with_reducible exact ih0 _ _)
      | (with_reducible exact LeO.refl _)
      | (with_reducible exact LeO.none _)
      | (with_reducible refine LeO.ite ?_ ?_)
      | (with_reducible refine LeO.bind ?_ (fun _ => ?_))
      | exact ih0 _ _
      | exact LeO.none _
      | refine LeO.ite ?_ ?_
      | refine LeO.bind ?_ (fun _ => ?_)
set_option maxHeartbeats 8000000 in
set_option maxRecDepth 100000 in
theorem laws_FnUtf7.calls (k : Nat) (a0 : ByteArray) (r : Bool) (w : World) (h : laws_FnUtf7.f k a0 = some r) (henv : Own.EnvT w) :
    Calls Tryd.prog 4 #[.string a0] w fun e w' => e = .returned (.bool r) ∧ Below w.heap.size w w' := by
  have HENV := Aside0.mk henv.all
  clear henv
  have HB := Aside0.mk (Below.refl w.heap.size w)
  have H : (if (a0.size : Int) > 2147483647 then (some true) else (if (a0.size : Int) > 500 then (laws_FnUtf7.j0 k a0 true) else ((Own.spec_Utf9F.f a0).bind fun t101 => (laws_FnUtf7.j0 k a0 (!t101))))) = some r := h
  clear h
  by_cases c2 : (a0.size : Int) > 2147483647
  · rw [if_pos c2] at H
    have c2b0 : decide (2147483647 < (a0.size : Int)) = true := decide_eq_true c2
    have c2b1 : decide (2147483647 < a0.size) = true := decide_eq_true (by omega)
    clear c2
    obtain rfl := Option.some.inj H
    go_enter Tryd.func4, Tryd.ntmps4
    go_wp2
    go_ret
    exact ⟨by first | rfl | (simp [errW_none, errW_some] <;> rfl) | (simp [*, errW_none, errW_some] <;> rfl), by repeat (first | (with_reducible first | exact HB.out | apply below_alloc | apply pw_below_drewN | apply below_drew1) | exact HB.out)⟩
  · rw [if_neg c2] at H
    have c2b0 : decide (2147483647 < (a0.size : Int)) = false := decide_eq_false c2
    have c2b1 : decide (2147483647 < a0.size) = false := decide_eq_false (by omega)
    clear c2
    have HC3 := Aside0.mk H
    clear H
    go_enter Tryd.func4, Tryd.ntmps4
    go_upto_region 3 with (fail)
    go_cut [17] (fun v17 wc => ∃ (kq : Nat) (x17_2 : Bool), v17 = .bool x17_2 ∧ Aside0 (laws_FnUtf7.j0 kq a0 x17_2 = some r) ∧ Aside0 (kq ≤ k) ∧ Aside0 (Below w.heap.size w wc))
    case first =>
      have H := HC3.out
      clear HC3
      by_cases c4 : (a0.size : Int) > 500
      · rw [if_pos c4] at H
        have c4b0 : decide (500 < (a0.size : Int)) = true := decide_eq_true c4
        have c4b1 : decide (500 < a0.size) = true := decide_eq_true (by omega)
        clear c4
        (first | rw [c4b0] | (simp only [i64_w, i32_w]; rw [c4b0]) | skip)
        have H' := Aside0.mk H
        clear H
        go_wp2
        go_meet
        case rel => exact ⟨_, (true), (by first | rfl | (simp; done) | (simp [*]; done)), H', ⟨by first | omega | exact Nat.le_refl _⟩, ⟨by repeat (first | (with_reducible first | exact HB.out | apply below_alloc | apply pw_below_drewN | apply below_drew1) | exact HB.out)⟩⟩
      · rw [if_neg c4] at H
        have c4b0 : decide (500 < (a0.size : Int)) = false := decide_eq_false c4
        have c4b1 : decide (500 < a0.size) = false := decide_eq_false (by omega)
        clear c4
        (first | rw [c4b0] | (simp only [i64_w, i32_w]; rw [c4b0]) | skip)
        replace H := Option.bind_eq_some_iff.mp H
        obtain ⟨t101, A50, H⟩ := H
        replace H : (laws_FnUtf7.j0 k a0 (!t101)) = some r := H
        have A5 := Aside0.mk A50
        clear A50
        have H' := Aside0.mk H
        clear H
        go_wp2_with (first | (go_at_call 7; (with_reducible refine (Own.spec_Utf9F.calls a0 t101 _ A5.out).mono ?_); rintro e w6 ⟨rfl, hb⟩; have n0_ := Aside0.mk (below_step (by repeat (first | (with_reducible first | exact HB.out | apply below_alloc | apply pw_below_drewN | apply below_drew1) | exact HB.out)) hb); clear HB; have HB := n0_; clear n0_; (try clear hb); (try clear hb2); (try clear hk); (try clear hi)))
        go_meet
        case rel => exact ⟨_, (!t101), (by first | rfl | (simp; done) | (simp [*]; done)), H', ⟨by first | omega | exact Nat.le_refl _⟩, ⟨by repeat (first | (with_reducible first | exact HB.out | apply below_alloc | apply pw_below_drewN | apply below_drew1) | exact HB.out)⟩⟩
    case rest =>
      clear HC3
      try clear c2
      try clear c2b0
      try clear c2b1
      try clear p2
      try clear c4
      try clear c4b0
      try clear c4b1
      obtain ⟨kq, x17_2, rfl, HA, HJ2, HB⟩ := hcut
      cases kq with
      | zero => exact absurd HA.out (by simp [laws_FnUtf7.j0])
      | succ kj2 =>
        have H := HA.out
        clear HA
        simp only [laws_FnUtf7.j0] at H
        by_cases c7 : x17_2 = true
        · subst c7
          have H1 : (some true) = some r := by rw [if_pos rfl] at H; exact H
          clear H
          have H := H1
          clear H1
          obtain rfl := Option.some.inj H
          go_wp2
          go_ret
          exact ⟨by first | rfl | (simp [errW_none, errW_some] <;> rfl) | (simp [*, errW_none, errW_some] <;> rfl), by repeat (first | (with_reducible first | exact HB.out | apply below_alloc | apply pw_below_drewN | apply below_drew1) | exact HB.out)⟩
        · replace c7 := Bool.eq_false_iff.mpr c7
          subst c7
          have H1 : ((Own.impl_Utf7.f a0).bind fun bt102 => ((Own.impl_FromUtf7T.f bt102.1).bind fun bt104 => (if bt102.2 = true then (if bt104.2 = true then ((Own.spec_Utf7OfF.f a0).bind fun t106 => (if bt102.1.toList = t106.toList then (some (bt104.1.toList == a0.toList)) else (some false))) else (some false)) else (some false)))) = some r := by rw [if_neg (show ¬ (false = true) by decide)] at H; exact H
          clear H
          have H := H1
          clear H1
          replace H := Option.bind_eq_some_iff.mp H
          obtain ⟨⟨t102, t103⟩, A80, H⟩ := H
          replace H : ((Own.impl_FromUtf7T.f t102).bind fun bt104 => (if t103 = true then (if bt104.2 = true then ((Own.spec_Utf7OfF.f a0).bind fun t106 => (if t102.toList = t106.toList then (some (bt104.1.toList == a0.toList)) else (some false))) else (some false)) else (some false))) = some r := H
          have A8 := Aside0.mk A80
          clear A80
          replace H := Option.bind_eq_some_iff.mp H
          obtain ⟨⟨t104, t105⟩, A90, H⟩ := H
          replace H : (if t103 = true then (if t105 = true then ((Own.spec_Utf7OfF.f a0).bind fun t106 => (if t102.toList = t106.toList then (some (t104.toList == a0.toList)) else (some false))) else (some false)) else (some false)) = some r := H
          have A9 := Aside0.mk A90
          clear A90
          by_cases c10 : t103 = true
          · subst c10
            have H1 : (if t105 = true then ((Own.spec_Utf7OfF.f a0).bind fun t106 => (if t102.toList = t106.toList then (some (t104.toList == a0.toList)) else (some false))) else (some false)) = some r := by rw [if_pos rfl] at H; exact H
            clear H
            have H := H1
            clear H1
            by_cases c11 : t105 = true
            · subst c11
              have H1 : ((Own.spec_Utf7OfF.f a0).bind fun t106 => (if t102.toList = t106.toList then (some (t104.toList == a0.toList)) else (some false))) = some r := by rw [if_pos rfl] at H; exact H
              clear H
              have H := H1
              clear H1
              replace H := Option.bind_eq_some_iff.mp H
              obtain ⟨t106, A120, H⟩ := H
              replace H : (if t102.toList = t106.toList then (some (t104.toList == a0.toList)) else (some false)) = some r := H
              have A12 := Aside0.mk A120
              clear A120
              by_cases c13 : t102.toList = t106.toList
              · rw [if_pos c13] at H
                have c13b0 : (t102.toList == t106.toList) = true := beq_iff_eq.mpr c13
                have c13b1 : (t102.toList != t106.toList) = false := bne_eq_false_iff_eq.mpr c13
                clear c13
                obtain rfl := Option.some.inj H
                go_wp2_with (first | ((with_reducible refine gate_callee (f := 8) rfl ?_); refine goesL_ (some 20) rfl rfl Tryd.func8 (by kernel_rfl) rfl #[.string a0] rfl (by (try simp only [List.map_toArray, List.map_cons, List.map_nil]); first | done | rfl | (simp only [List.length_drop, List.length_take]; rfl)) ?_; (with_reducible refine (Own.impl_Utf7.calls a0 t102 true _ A8.out (HENV.out _ (by repeat (first | (with_reducible first | exact HB.out | apply below_alloc | apply pw_below_drewN | apply below_drew1) | exact HB.out)))).mono ?_); rintro e w14 ⟨rfl, hb⟩; refine ⟨_, rfl, ?_⟩; have n0_ := Aside0.mk (below_step (by repeat (first | (with_reducible first | exact HB.out | apply below_alloc | apply pw_below_drewN | apply below_drew1) | exact HB.out)) hb); clear HB; have HB := n0_; clear n0_; (try clear hb); (try clear hb2); (try clear hk); (try clear hi)) | ((with_reducible refine gate_callee (f := 6) rfl ?_); refine goesL_ (some 25) rfl rfl Tryd.func6 (by kernel_rfl) rfl #[.string t102] rfl (by (try simp only [List.map_toArray, List.map_cons, List.map_nil]); first | done | rfl | (simp only [List.length_drop, List.length_take]; rfl)) ?_; (with_reducible refine (Own.impl_FromUtf7T.calls t102 t104 true _ A9.out (HENV.out _ (by repeat (first | (with_reducible first | exact HB.out | apply below_alloc | apply pw_below_drewN | apply below_drew1) | exact HB.out)))).mono ?_); rintro e w15 ⟨rfl, hb⟩; refine ⟨_, rfl, ?_⟩; have n0_ := Aside0.mk (below_step (by repeat (first | (with_reducible first | exact HB.out | apply below_alloc | apply pw_below_drewN | apply below_drew1) | exact HB.out)) hb); clear HB; have HB := n0_; clear n0_; (try clear hb); (try clear hb2); (try clear hk); (try clear hi)) | (go_at_call 9; (with_reducible refine (Own.spec_Utf7OfF.calls a0 t106 _ A12.out).mono ?_); rintro e w16 ⟨rfl, hb⟩; have n0_ := Aside0.mk (below_step (by repeat (first | (with_reducible first | exact HB.out | apply below_alloc | apply pw_below_drewN | apply below_drew1) | exact HB.out)) hb); clear HB; have HB := n0_; clear n0_; (try clear hb); (try clear hb2); (try clear hk); (try clear hi)))
                go_ret
                exact ⟨by first | rfl | (simp [errW_none, errW_some] <;> rfl) | (simp [*, errW_none, errW_some] <;> rfl), by repeat (first | (with_reducible first | exact HB.out | apply below_alloc | apply pw_below_drewN | apply below_drew1) | exact HB.out)⟩
              · rw [if_neg c13] at H
                have c13b0 : (t102.toList == t106.toList) = false := beq_eq_false_iff_ne.mpr c13
                have c13b1 : (t102.toList != t106.toList) = true := bne_iff_ne.mpr c13
                obtain rfl := Option.some.inj H
                go_wp2_with (first | ((with_reducible refine gate_callee (f := 8) rfl ?_); refine goesL_ (some 20) rfl rfl Tryd.func8 (by kernel_rfl) rfl #[.string a0] rfl (by (try simp only [List.map_toArray, List.map_cons, List.map_nil]); first | done | rfl | (simp only [List.length_drop, List.length_take]; rfl)) ?_; (with_reducible refine (Own.impl_Utf7.calls a0 t102 true _ A8.out (HENV.out _ (by repeat (first | (with_reducible first | exact HB.out | apply below_alloc | apply pw_below_drewN | apply below_drew1) | exact HB.out)))).mono ?_); rintro e w17 ⟨rfl, hb⟩; refine ⟨_, rfl, ?_⟩; have n0_ := Aside0.mk (below_step (by repeat (first | (with_reducible first | exact HB.out | apply below_alloc | apply pw_below_drewN | apply below_drew1) | exact HB.out)) hb); clear HB; have HB := n0_; clear n0_; (try clear hb); (try clear hb2); (try clear hk); (try clear hi)) | ((with_reducible refine gate_callee (f := 6) rfl ?_); refine goesL_ (some 25) rfl rfl Tryd.func6 (by kernel_rfl) rfl #[.string t102] rfl (by (try simp only [List.map_toArray, List.map_cons, List.map_nil]); first | done | rfl | (simp only [List.length_drop, List.length_take]; rfl)) ?_; (with_reducible refine (Own.impl_FromUtf7T.calls t102 t104 true _ A9.out (HENV.out _ (by repeat (first | (with_reducible first | exact HB.out | apply below_alloc | apply pw_below_drewN | apply below_drew1) | exact HB.out)))).mono ?_); rintro e w18 ⟨rfl, hb⟩; refine ⟨_, rfl, ?_⟩; have n0_ := Aside0.mk (below_step (by repeat (first | (with_reducible first | exact HB.out | apply below_alloc | apply pw_below_drewN | apply below_drew1) | exact HB.out)) hb); clear HB; have HB := n0_; clear n0_; (try clear hb); (try clear hb2); (try clear hk); (try clear hi)) | (go_at_call 9; (with_reducible refine (Own.spec_Utf7OfF.calls a0 t106 _ A12.out).mono ?_); rintro e w19 ⟨rfl, hb⟩; have n0_ := Aside0.mk (below_step (by repeat (first | (with_reducible first | exact HB.out | apply below_alloc | apply pw_below_drewN | apply below_drew1) | exact HB.out)) hb); clear HB; have HB := n0_; clear n0_; (try clear hb); (try clear hb2); (try clear hk); (try clear hi)))
                go_ret
                exact ⟨by first | rfl | (simp [errW_none, errW_some] <;> rfl) | (simp [*, errW_none, errW_some] <;> rfl), by repeat (first | (with_reducible first | exact HB.out | apply below_alloc | apply pw_below_drewN | apply below_drew1) | exact HB.out)⟩
            · replace c11 := Bool.eq_false_iff.mpr c11
              subst c11
              have H1 : (some false) = some r := by rw [if_neg (show ¬ (false = true) by decide)] at H; exact H
              clear H
              have H := H1
              clear H1
              obtain rfl := Option.some.inj H
              go_wp2_with (first | ((with_reducible refine gate_callee (f := 8) rfl ?_); refine goesL_ (some 20) rfl rfl Tryd.func8 (by kernel_rfl) rfl #[.string a0] rfl (by (try simp only [List.map_toArray, List.map_cons, List.map_nil]); first | done | rfl | (simp only [List.length_drop, List.length_take]; rfl)) ?_; (with_reducible refine (Own.impl_Utf7.calls a0 t102 true _ A8.out (HENV.out _ (by repeat (first | (with_reducible first | exact HB.out | apply below_alloc | apply pw_below_drewN | apply below_drew1) | exact HB.out)))).mono ?_); rintro e w20 ⟨rfl, hb⟩; refine ⟨_, rfl, ?_⟩; have n0_ := Aside0.mk (below_step (by repeat (first | (with_reducible first | exact HB.out | apply below_alloc | apply pw_below_drewN | apply below_drew1) | exact HB.out)) hb); clear HB; have HB := n0_; clear n0_; (try clear hb); (try clear hb2); (try clear hk); (try clear hi)) | ((with_reducible refine gate_callee (f := 6) rfl ?_); refine goesL_ (some 25) rfl rfl Tryd.func6 (by kernel_rfl) rfl #[.string t102] rfl (by (try simp only [List.map_toArray, List.map_cons, List.map_nil]); first | done | rfl | (simp only [List.length_drop, List.length_take]; rfl)) ?_; (with_reducible refine (Own.impl_FromUtf7T.calls t102 t104 false _ A9.out (HENV.out _ (by repeat (first | (with_reducible first | exact HB.out | apply below_alloc | apply pw_below_drewN | apply below_drew1) | exact HB.out)))).mono ?_); rintro e w21 ⟨rfl, hb⟩; refine ⟨_, rfl, ?_⟩; have n0_ := Aside0.mk (below_step (by repeat (first | (with_reducible first | exact HB.out | apply below_alloc | apply pw_below_drewN | apply below_drew1) | exact HB.out)) hb); clear HB; have HB := n0_; clear n0_; (try clear hb); (try clear hb2); (try clear hk); (try clear hi)))
              go_ret
              exact ⟨by first | rfl | (simp [errW_none, errW_some] <;> rfl) | (simp [*, errW_none, errW_some] <;> rfl), by repeat (first | (with_reducible first | exact HB.out | apply below_alloc | apply pw_below_drewN | apply below_drew1) | exact HB.out)⟩
          · replace c10 := Bool.eq_false_iff.mpr c10
            subst c10
            have H1 : (some false) = some r := by rw [if_neg (show ¬ (false = true) by decide)] at H; exact H
            clear H
            have H := H1
            clear H1
            obtain rfl := Option.some.inj H
            go_wp2_with (first | ((with_reducible refine gate_callee (f := 8) rfl ?_); refine goesL_ (some 20) rfl rfl Tryd.func8 (by kernel_rfl) rfl #[.string a0] rfl (by (try simp only [List.map_toArray, List.map_cons, List.map_nil]); first | done | rfl | (simp only [List.length_drop, List.length_take]; rfl)) ?_; (with_reducible refine (Own.impl_Utf7.calls a0 t102 false _ A8.out (HENV.out _ (by repeat (first | (with_reducible first | exact HB.out | apply below_alloc | apply pw_below_drewN | apply below_drew1) | exact HB.out)))).mono ?_); rintro e w22 ⟨rfl, hb⟩; refine ⟨_, rfl, ?_⟩; have n0_ := Aside0.mk (below_step (by repeat (first | (with_reducible first | exact HB.out | apply below_alloc | apply pw_below_drewN | apply below_drew1) | exact HB.out)) hb); clear HB; have HB := n0_; clear n0_; (try clear hb); (try clear hb2); (try clear hk); (try clear hi)) | ((with_reducible refine gate_callee (f := 6) rfl ?_); refine goesL_ (some 25) rfl rfl Tryd.func6 (by kernel_rfl) rfl #[.string t102] rfl (by (try simp only [List.map_toArray, List.map_cons, List.map_nil]); first | done | rfl | (simp only [List.length_drop, List.length_take]; rfl)) ?_; (with_reducible refine (Own.impl_FromUtf7T.calls t102 t104 t105 _ A9.out (HENV.out _ (by repeat (first | (with_reducible first | exact HB.out | apply below_alloc | apply pw_below_drewN | apply below_drew1) | exact HB.out)))).mono ?_); rintro e w23 ⟨rfl, hb⟩; refine ⟨_, rfl, ?_⟩; have n0_ := Aside0.mk (below_step (by repeat (first | (with_reducible first | exact HB.out | apply below_alloc | apply pw_below_drewN | apply below_drew1) | exact HB.out)) hb); clear HB; have HB := n0_; clear n0_; (try clear hb); (try clear hb2); (try clear hk); (try clear hi)))
            go_ret
            exact ⟨by first | rfl | (simp [errW_none, errW_some] <;> rfl) | (simp [*, errW_none, errW_some] <;> rfl), by repeat (first | (with_reducible first | exact HB.out | apply below_alloc | apply pw_below_drewN | apply below_drew1) | exact HB.out)⟩

/-- THE ONE PURE STATEMENT of laws_FnUtf7: yours. -/
def laws_FnUtf7.Pure : Prop := ∀ (a0 : ByteArray), a0.size ≤ 140737488351232 → ∃ k, laws_FnUtf7.f k a0 = some true
theorem laws_FnUtf7.walk (P : laws_FnUtf7.Pure) (a0 : ByteArray) (w : World) (w0 : a0.size ≤ 140737488351232) (henv : Own.EnvT w) :
    Calls Tryd.prog 4 #[.string a0] w fun e w' => e = .returned (.bool true) ∧ Below w.heap.size w w' := by
  obtain ⟨k, h⟩ := P a0 w0
  refine (laws_FnUtf7.calls k a0 true w h henv).mono ?_
  rintro e w' ⟨rfl, hd⟩
  exact ⟨rfl, hd⟩

end Go.Proofs.YtbjhmmiijebehaaDoor.PFnUtf7

namespace Go.Proofs.YtbjhmmiijebehaaDoor.Pure
open Go.RowKit Go.Proofs.YtbjhmmiijebehaaDoor.PFnUtf7 Go.Proofs.YtbjhmmiijebehaaDoorW.PrintWords Go.Proofs.YtbjhmmiijebehaaDoorW.PrintLast Go.Proofs.YtbjhmmiijebehaaDoor.Own
set_option linter.unusedVariables false
set_option linter.unusedSimpArgs false

theorem FnUtf7 : laws_FnUtf7.Pure := by
  intro a0 h0
  refine ⟨1, ?_⟩
  unfold laws_FnUtf7.f
  by_cases h1 : (a0.size : Int) > 2147483647
  · rw [if_pos h1]
  · rw [if_neg h1]
    by_cases h2 : (a0.size : Int) > 500
    · rw [if_pos h2]; rfl
    · rw [if_neg h2]
      have e1 : Own.spec_Utf9F.f a0 = some (utf9 a0.data.toList) := by unfold Own.spec_Utf9F.f; rw [if_pos (by omega)]
      rw [e1, Option.bind_some]
      rcases hu : utf9 a0.data.toList with _ | _
      · rfl
      · have e2 : Own.impl_Utf7.f a0 = some (toP a0, true) := by unfold Own.impl_Utf7.f; rw [if_pos (by omega)]
        have e3 : Own.impl_FromUtf7T.f (toP a0) = some (a0, true) := by
          have hs := toP_size a0
          unfold Own.impl_FromUtf7T.f Own.impl_FromUtf7.f
          rw [if_pos (by omega), round_P a0 hu]
        have e4 : Own.spec_Utf7OfF.f a0 = some (toP a0) := by unfold Own.spec_Utf7OfF.f; rw [if_pos (by omega)]
        rw [laws_FnUtf7.j0, if_neg (by decide), e2, Option.bind_some, e3, Option.bind_some, if_pos rfl, if_pos rfl, e4, Option.bind_some, if_pos rfl]
        simp
end Go.Proofs.YtbjhmmiijebehaaDoor.Pure
