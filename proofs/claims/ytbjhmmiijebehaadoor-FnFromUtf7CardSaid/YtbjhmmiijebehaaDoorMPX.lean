/- FnFromUtf7 holds at every text, plainly: the reference and the package say the same of at most 500 bytes. No condition beyond the text's size. -/
import Derived.Test.YtbjhmmiijebehaaDoorProg
import Derived.Test.YtbjhmmiijebehaaDoorMG
import Derived.Test.YtbjhmmiijebehaaDoorWWords
import Derived.Test.YtbjhmmiijebehaaDoorWLast
import Derived.Test.YtbjhmmiijebehaaDoorWTab
import Derived.Test.YtbjhmmiijebehaaDoorWFour
import Derived.Test.YtbjhmmiijebehaaDoorWQPut
import Derived.Test.YtbjhmmiijebehaaDoorWApart
import Derived.Test.YtbjhmmiijebehaaDoorWArr
import Derived.Test.YtbjhmmiijebehaaDoorWZeros
import Derived.Test.YtbjhmmiijebehaaDoorWFoot
import Derived.Test.YtbjhmmiijebehaaDoorWKept
import Derived.Test.YtbjhmmiijebehaaDoorWShare
import Derived.Test.YtbjhmmiijebehaaDoorWN
import Derived.Test.YtbjhmmiijebehaaDoorWFootNe
import Derived.Test.YtbjhmmiijebehaaDoorWAt
import Derived.Test.YtbjhmmiijebehaaDoorWEqStruct
import Derived.Test.YtbjhmmiijebehaaDoorWRepsOne
import Derived.Test.YtbjhmmiijebehaaDoorWInv
import Derived.Test.YtbjhmmiijebehaaDoorWInvWords
import Derived.Test.YtbjhmmiijebehaaDoorWGuard
import Derived.Test.YtbjhmmiijebehaaDoorWNEv
import Derived.Test.YtbjhmmiijebehaaDoorWMore
import Derived.Below
import Derived.Deep.Draws
import Derived.Deep.AppendLies
import Derived.Maps.AppendAt
import Derived.OwnWalk
import Derived.Laws.BytesArg
import Derived.Laws.MakeOwn
import Derived.Laws.OwnMore
import Derived.Deep.OwnRows
import Derived.Tactics
import Derived.Lib.ConvBytes
import Derived.Laws.Slices
import Derived.WalkKit
import Derived.KernelRfl
import Derived.RowKit3
import Derived.Deep.LoopGhost
import Derived.Deep.QuietTactic
import Derived.BigQuiet
import Derived.WideLaws
import Derived.Deep.DeepCutAuto
import Derived.Deep.CutBlock
import Derived.Deep.RegionHeld3
import Derived.Laws.Rows
import Derived.Lib.AppendStr
import Derived.ArgAppend
import Derived.Laws.IdiomCopy
import Derived.OrdersHeld
import Derived.Laws.BitsLemmas
import Derived.RowKit
namespace Go.Proofs.YtbjhmmiijebehaaDoor.PFnFromUtf7
open Go.RowKit Go.Proofs.YtbjhmmiijebehaaDoorW.PrintWords Go.Proofs.YtbjhmmiijebehaaDoorW.PrintLast Go.Proofs.YtbjhmmiijebehaaDoorW.PrintMore
attribute [local go_sem] max2_int min2_int max_two min_two max_three min_three max_four min_four   -- for this text's walks alone
set_option linter.unusedVariables false
set_option linter.unusedSimpArgs false



def errW : Option Int → Value
  | none => .nilIface
  | some c => .iface 0 (.int .i64 c)
theorem errW_none : errW none = .nilIface := rfl
theorem errW_some (c : Int) : errW (some c) = .iface 0 (.int .i64 c) := rfl

-- the values' own types

end Go.Proofs.YtbjhmmiijebehaaDoor.PFnFromUtf7

namespace Go.Proofs.YtbjhmmiijebehaaDoor.PFnFromUtf7
open Go.RowKit Go.Proofs.YtbjhmmiijebehaaDoorW.PrintWords Go.Proofs.YtbjhmmiijebehaaDoorW.PrintLast Go.Proofs.YtbjhmmiijebehaaDoorW.PrintMore
attribute [local go_sem] max2_int min2_int max_two min_two max_three min_three max_four min_four   -- for this text's walks alone
set_option linter.unusedVariables false
set_option linter.unusedSimpArgs false

/-! ### laws_FnFromUtf7: function 3 -/
def laws_FnFromUtf7.f (a0 : ByteArray) : Option (Bool) := if (a0.size : Int) > 2147483647 then (some true) else (if (a0.size : Int) > 500 then (some true) else ((Own.spec_FromUtf7OfF.f a0).bind fun bt101 => ((Own.impl_FromUtf7.f a0).bind fun bt103 => ((Own.impl_FromUtf7.f (⟨#[97]⟩ : ByteArray)).bind fun bt105 => (if bt105.2 = true then (if (bt103.2 == bt101.2) = true then (if bt103.2 = true then (some (bt103.1.toList == bt101.1.toList)) else (some true)) else (some false)) else (some false))))))
set_option maxHeartbeats 8000000 in
set_option maxRecDepth 100000 in
theorem laws_FnFromUtf7.calls (a0 : ByteArray) (r : Bool) (w : World) (h : laws_FnFromUtf7.f a0 = some r) (henv : Own.EnvU w) :
    Calls Tryd.prog 3 #[.string a0] w fun e w' => e = .returned (.bool r) ∧ Below w.heap.size w w' := by
  have HENV := Aside0.mk henv.all
  clear henv
  have HB := Aside0.mk (Below.refl w.heap.size w)
  have H : (if (a0.size : Int) > 2147483647 then (some true) else (if (a0.size : Int) > 500 then (some true) else ((Own.spec_FromUtf7OfF.f a0).bind fun bt101 => ((Own.impl_FromUtf7.f a0).bind fun bt103 => ((Own.impl_FromUtf7.f (⟨#[97]⟩ : ByteArray)).bind fun bt105 => (if bt105.2 = true then (if (bt103.2 == bt101.2) = true then (if bt103.2 = true then (some (bt103.1.toList == bt101.1.toList)) else (some true)) else (some false)) else (some false))))))) = some r := h
  clear h
  by_cases c2 : (a0.size : Int) > 2147483647
  · rw [if_pos c2] at H
    have c2b0 : decide (2147483647 < (a0.size : Int)) = true := decide_eq_true c2
    have c2b1 : decide (2147483647 < a0.size) = true := decide_eq_true (by omega)
    clear c2
    obtain rfl := Option.some.inj H
    go_enter Tryd.func3, Tryd.ntmps3
    go_wp2
    go_ret
    exact ⟨by first | rfl | (simp [errW_none, errW_some] <;> rfl) | (simp [*, errW_none, errW_some] <;> rfl), by repeat (first | (with_reducible first | exact HB.out | apply below_alloc | apply pw_below_drewN | apply below_drew1) | exact HB.out)⟩
  · rw [if_neg c2] at H
    have c2b0 : decide (2147483647 < (a0.size : Int)) = false := decide_eq_false c2
    have c2b1 : decide (2147483647 < a0.size) = false := decide_eq_false (by omega)
    clear c2
    by_cases c3 : (a0.size : Int) > 500
    · rw [if_pos c3] at H
      have c3b0 : decide (500 < (a0.size : Int)) = true := decide_eq_true c3
      have c3b1 : decide (500 < a0.size) = true := decide_eq_true (by omega)
      clear c3
      obtain rfl := Option.some.inj H
      go_enter Tryd.func3, Tryd.ntmps3
      go_wp2
      go_ret
      exact ⟨by first | rfl | (simp [errW_none, errW_some] <;> rfl) | (simp [*, errW_none, errW_some] <;> rfl), by repeat (first | (with_reducible first | exact HB.out | apply below_alloc | apply pw_below_drewN | apply below_drew1) | exact HB.out)⟩
    · rw [if_neg c3] at H
      have c3b0 : decide (500 < (a0.size : Int)) = false := decide_eq_false c3
      have c3b1 : decide (500 < a0.size) = false := decide_eq_false (by omega)
      clear c3
      replace H := Option.bind_eq_some_iff.mp H
      obtain ⟨⟨t101, t102⟩, A40, H⟩ := H
      replace H : ((Own.impl_FromUtf7.f a0).bind fun bt103 => ((Own.impl_FromUtf7.f (⟨#[97]⟩ : ByteArray)).bind fun bt105 => (if bt105.2 = true then (if (bt103.2 == t102) = true then (if bt103.2 = true then (some (bt103.1.toList == t101.toList)) else (some true)) else (some false)) else (some false)))) = some r := H
      have A4 := Aside0.mk A40
      clear A40
      replace H := Option.bind_eq_some_iff.mp H
      obtain ⟨⟨t103, t104⟩, A50, H⟩ := H
      replace H : ((Own.impl_FromUtf7.f (⟨#[97]⟩ : ByteArray)).bind fun bt105 => (if bt105.2 = true then (if (t104 == t102) = true then (if t104 = true then (some (t103.toList == t101.toList)) else (some true)) else (some false)) else (some false))) = some r := H
      have A5 := Aside0.mk A50
      clear A50
      replace H := Option.bind_eq_some_iff.mp H
      obtain ⟨⟨t105, t106⟩, A60, H⟩ := H
      replace H : (if t106 = true then (if (t104 == t102) = true then (if t104 = true then (some (t103.toList == t101.toList)) else (some true)) else (some false)) else (some false)) = some r := H
      have A6 := Aside0.mk A60
      clear A60
      by_cases c7 : t106 = true
      · subst c7
        have H1 : (if (t104 == t102) = true then (if t104 = true then (some (t103.toList == t101.toList)) else (some true)) else (some false)) = some r := by rw [if_pos rfl] at H; exact H
        clear H
        have H := H1
        clear H1
        by_cases c8 : (t104 == t102) = true
        · rw [if_pos c8] at H
          have c8b0 : (t104 == t102) = true := c8
          (try (have c8b1 : decide (t104 = t102) = true := by simpa using c8))
          (try (have c8b2 : (t104 == t102) = true := by simpa using c8))
          clear c8
          by_cases c9 : t104 = true
          · subst c9
            have H1 : (some (t103.toList == t101.toList)) = some r := by rw [if_pos rfl] at H; exact H
            clear H
            have H := H1
            clear H1
            obtain rfl := Option.some.inj H
            go_enter Tryd.func3, Tryd.ntmps3
            go_wp2_with (first | ((with_reducible refine gate_callee (f := 5) rfl ?_); refine goesL_ (some 17) rfl rfl Tryd.func5 (by kernel_rfl) rfl #[.string a0] rfl (by (try simp only [List.map_toArray, List.map_cons, List.map_nil]); first | done | rfl | (simp only [List.length_drop, List.length_take]; rfl)) ?_; (with_reducible refine (Own.spec_FromUtf7OfF.calls a0 t101 t102 _ A4.out).mono ?_); rintro e w10 ⟨rfl, hb⟩; refine ⟨_, rfl, ?_⟩; have n0_ := Aside0.mk (below_step (by repeat (first | (with_reducible first | exact HB.out | apply below_alloc | apply pw_below_drewN | apply below_drew1) | exact HB.out)) hb); clear HB; have HB := n0_; clear n0_; (try clear hb); (try clear hb2); (try clear hk); (try clear hi)) | ((with_reducible refine gate_callee (f := 6) rfl ?_); refine goesL_ (some 22) rfl rfl Tryd.func6 (by kernel_rfl) rfl #[.string a0] rfl (by (try simp only [List.map_toArray, List.map_cons, List.map_nil]); first | done | rfl | (simp only [List.length_drop, List.length_take]; rfl)) ?_; (with_reducible refine (Own.impl_FromUtf7.calls a0 t103 true _ A5.out (HENV.out _ (by repeat (first | (with_reducible first | exact HB.out | apply below_alloc | apply pw_below_drewN | apply below_drew1) | exact HB.out)))).mono ?_); rintro e w11 ⟨rfl, hb⟩; refine ⟨_, rfl, ?_⟩; have n0_ := Aside0.mk (below_step (by repeat (first | (with_reducible first | exact HB.out | apply below_alloc | apply pw_below_drewN | apply below_drew1) | exact HB.out)) hb); clear HB; have HB := n0_; clear n0_; (try clear hb); (try clear hb2); (try clear hk); (try clear hi)) | ((with_reducible refine gate_callee (f := 6) rfl ?_); refine goesL_ (some 26) rfl rfl Tryd.func6 (by kernel_rfl) rfl #[.string (⟨#[97]⟩ : ByteArray)] rfl (by (try simp only [List.map_toArray, List.map_cons, List.map_nil]); first | done | rfl | (simp only [List.length_drop, List.length_take]; rfl)) ?_; (with_reducible refine (Own.impl_FromUtf7.calls (⟨#[97]⟩ : ByteArray) t105 true _ A6.out (HENV.out _ (by repeat (first | (with_reducible first | exact HB.out | apply below_alloc | apply pw_below_drewN | apply below_drew1) | exact HB.out)))).mono ?_); rintro e w12 ⟨rfl, hb⟩; refine ⟨_, rfl, ?_⟩; have n0_ := Aside0.mk (below_step (by repeat (first | (with_reducible first | exact HB.out | apply below_alloc | apply pw_below_drewN | apply below_drew1) | exact HB.out)) hb); clear HB; have HB := n0_; clear n0_; (try clear hb); (try clear hb2); (try clear hk); (try clear hi)))
            go_ret
            exact ⟨by first | rfl | (simp [errW_none, errW_some] <;> rfl) | (simp [*, errW_none, errW_some] <;> rfl), by repeat (first | (with_reducible first | exact HB.out | apply below_alloc | apply pw_below_drewN | apply below_drew1) | exact HB.out)⟩
          · replace c9 := Bool.eq_false_iff.mpr c9
            subst c9
            have H1 : (some true) = some r := by rw [if_neg (show ¬ (false = true) by decide)] at H; exact H
            clear H
            have H := H1
            clear H1
            obtain rfl := Option.some.inj H
            go_enter Tryd.func3, Tryd.ntmps3
            go_wp2_with (first | ((with_reducible refine gate_callee (f := 5) rfl ?_); refine goesL_ (some 17) rfl rfl Tryd.func5 (by kernel_rfl) rfl #[.string a0] rfl (by (try simp only [List.map_toArray, List.map_cons, List.map_nil]); first | done | rfl | (simp only [List.length_drop, List.length_take]; rfl)) ?_; (with_reducible refine (Own.spec_FromUtf7OfF.calls a0 t101 t102 _ A4.out).mono ?_); rintro e w13 ⟨rfl, hb⟩; refine ⟨_, rfl, ?_⟩; have n0_ := Aside0.mk (below_step (by repeat (first | (with_reducible first | exact HB.out | apply below_alloc | apply pw_below_drewN | apply below_drew1) | exact HB.out)) hb); clear HB; have HB := n0_; clear n0_; (try clear hb); (try clear hb2); (try clear hk); (try clear hi)) | ((with_reducible refine gate_callee (f := 6) rfl ?_); refine goesL_ (some 22) rfl rfl Tryd.func6 (by kernel_rfl) rfl #[.string a0] rfl (by (try simp only [List.map_toArray, List.map_cons, List.map_nil]); first | done | rfl | (simp only [List.length_drop, List.length_take]; rfl)) ?_; (with_reducible refine (Own.impl_FromUtf7.calls a0 t103 false _ A5.out (HENV.out _ (by repeat (first | (with_reducible first | exact HB.out | apply below_alloc | apply pw_below_drewN | apply below_drew1) | exact HB.out)))).mono ?_); rintro e w14 ⟨rfl, hb⟩; refine ⟨_, rfl, ?_⟩; have n0_ := Aside0.mk (below_step (by repeat (first | (with_reducible first | exact HB.out | apply below_alloc | apply pw_below_drewN | apply below_drew1) | exact HB.out)) hb); clear HB; have HB := n0_; clear n0_; (try clear hb); (try clear hb2); (try clear hk); (try clear hi)) | ((with_reducible refine gate_callee (f := 6) rfl ?_); refine goesL_ (some 26) rfl rfl Tryd.func6 (by kernel_rfl) rfl #[.string (⟨#[97]⟩ : ByteArray)] rfl (by (try simp only [List.map_toArray, List.map_cons, List.map_nil]); first | done | rfl | (simp only [List.length_drop, List.length_take]; rfl)) ?_; (with_reducible refine (Own.impl_FromUtf7.calls (⟨#[97]⟩ : ByteArray) t105 true _ A6.out (HENV.out _ (by repeat (first | (with_reducible first | exact HB.out | apply below_alloc | apply pw_below_drewN | apply below_drew1) | exact HB.out)))).mono ?_); rintro e w15 ⟨rfl, hb⟩; refine ⟨_, rfl, ?_⟩; have n0_ := Aside0.mk (below_step (by repeat (first | (with_reducible first | exact HB.out | apply below_alloc | apply pw_below_drewN | apply below_drew1) | exact HB.out)) hb); clear HB; have HB := n0_; clear n0_; (try clear hb); (try clear hb2); (try clear hk); (try clear hi)))
            go_ret
            exact ⟨by first | rfl | (simp [errW_none, errW_some] <;> rfl) | (simp [*, errW_none, errW_some] <;> rfl), by repeat (first | (with_reducible first | exact HB.out | apply below_alloc | apply pw_below_drewN | apply below_drew1) | exact HB.out)⟩
        · rw [if_neg c8] at H
          have c8b0 : (t104 == t102) = false := by simpa using c8
          (try (have c8b1 : decide (t104 = t102) = false := by simpa using c8))
          (try (have c8b2 : (t104 == t102) = false := by simpa using c8))
          (try (have c8b3 : ¬ (t104 = t102) := by simpa using c8))
          clear c8
          obtain rfl := Option.some.inj H
          go_enter Tryd.func3, Tryd.ntmps3
          go_wp2_with (first | ((with_reducible refine gate_callee (f := 5) rfl ?_); refine goesL_ (some 17) rfl rfl Tryd.func5 (by kernel_rfl) rfl #[.string a0] rfl (by (try simp only [List.map_toArray, List.map_cons, List.map_nil]); first | done | rfl | (simp only [List.length_drop, List.length_take]; rfl)) ?_; (with_reducible refine (Own.spec_FromUtf7OfF.calls a0 t101 t102 _ A4.out).mono ?_); rintro e w16 ⟨rfl, hb⟩; refine ⟨_, rfl, ?_⟩; have n0_ := Aside0.mk (below_step (by repeat (first | (with_reducible first | exact HB.out | apply below_alloc | apply pw_below_drewN | apply below_drew1) | exact HB.out)) hb); clear HB; have HB := n0_; clear n0_; (try clear hb); (try clear hb2); (try clear hk); (try clear hi)) | ((with_reducible refine gate_callee (f := 6) rfl ?_); refine goesL_ (some 22) rfl rfl Tryd.func6 (by kernel_rfl) rfl #[.string a0] rfl (by (try simp only [List.map_toArray, List.map_cons, List.map_nil]); first | done | rfl | (simp only [List.length_drop, List.length_take]; rfl)) ?_; (with_reducible refine (Own.impl_FromUtf7.calls a0 t103 t104 _ A5.out (HENV.out _ (by repeat (first | (with_reducible first | exact HB.out | apply below_alloc | apply pw_below_drewN | apply below_drew1) | exact HB.out)))).mono ?_); rintro e w17 ⟨rfl, hb⟩; refine ⟨_, rfl, ?_⟩; have n0_ := Aside0.mk (below_step (by repeat (first | (with_reducible first | exact HB.out | apply below_alloc | apply pw_below_drewN | apply below_drew1) | exact HB.out)) hb); clear HB; have HB := n0_; clear n0_; (try clear hb); (try clear hb2); (try clear hk); (try clear hi)) | ((with_reducible refine gate_callee (f := 6) rfl ?_); refine goesL_ (some 26) rfl rfl Tryd.func6 (by kernel_rfl) rfl #[.string (⟨#[97]⟩ : ByteArray)] rfl (by (try simp only [List.map_toArray, List.map_cons, List.map_nil]); first | done | rfl | (simp only [List.length_drop, List.length_take]; rfl)) ?_; (with_reducible refine (Own.impl_FromUtf7.calls (⟨#[97]⟩ : ByteArray) t105 true _ A6.out (HENV.out _ (by repeat (first | (with_reducible first | exact HB.out | apply below_alloc | apply pw_below_drewN | apply below_drew1) | exact HB.out)))).mono ?_); rintro e w18 ⟨rfl, hb⟩; refine ⟨_, rfl, ?_⟩; have n0_ := Aside0.mk (below_step (by repeat (first | (with_reducible first | exact HB.out | apply below_alloc | apply pw_below_drewN | apply below_drew1) | exact HB.out)) hb); clear HB; have HB := n0_; clear n0_; (try clear hb); (try clear hb2); (try clear hk); (try clear hi)))
          go_ret
          exact ⟨by first | rfl | (simp [errW_none, errW_some] <;> rfl) | (simp [*, errW_none, errW_some] <;> rfl), by repeat (first | (with_reducible first | exact HB.out | apply below_alloc | apply pw_below_drewN | apply below_drew1) | exact HB.out)⟩
      · replace c7 := Bool.eq_false_iff.mpr c7
        subst c7
        have H1 : (some false) = some r := by rw [if_neg (show ¬ (false = true) by decide)] at H; exact H
        clear H
        have H := H1
        clear H1
        obtain rfl := Option.some.inj H
        go_enter Tryd.func3, Tryd.ntmps3
        go_wp2_with (first | ((with_reducible refine gate_callee (f := 5) rfl ?_); refine goesL_ (some 17) rfl rfl Tryd.func5 (by kernel_rfl) rfl #[.string a0] rfl (by (try simp only [List.map_toArray, List.map_cons, List.map_nil]); first | done | rfl | (simp only [List.length_drop, List.length_take]; rfl)) ?_; (with_reducible refine (Own.spec_FromUtf7OfF.calls a0 t101 t102 _ A4.out).mono ?_); rintro e w19 ⟨rfl, hb⟩; refine ⟨_, rfl, ?_⟩; have n0_ := Aside0.mk (below_step (by repeat (first | (with_reducible first | exact HB.out | apply below_alloc | apply pw_below_drewN | apply below_drew1) | exact HB.out)) hb); clear HB; have HB := n0_; clear n0_; (try clear hb); (try clear hb2); (try clear hk); (try clear hi)) | ((with_reducible refine gate_callee (f := 6) rfl ?_); refine goesL_ (some 22) rfl rfl Tryd.func6 (by kernel_rfl) rfl #[.string a0] rfl (by (try simp only [List.map_toArray, List.map_cons, List.map_nil]); first | done | rfl | (simp only [List.length_drop, List.length_take]; rfl)) ?_; (with_reducible refine (Own.impl_FromUtf7.calls a0 t103 t104 _ A5.out (HENV.out _ (by repeat (first | (with_reducible first | exact HB.out | apply below_alloc | apply pw_below_drewN | apply below_drew1) | exact HB.out)))).mono ?_); rintro e w20 ⟨rfl, hb⟩; refine ⟨_, rfl, ?_⟩; have n0_ := Aside0.mk (below_step (by repeat (first | (with_reducible first | exact HB.out | apply below_alloc | apply pw_below_drewN | apply below_drew1) | exact HB.out)) hb); clear HB; have HB := n0_; clear n0_; (try clear hb); (try clear hb2); (try clear hk); (try clear hi)) | ((with_reducible refine gate_callee (f := 6) rfl ?_); refine goesL_ (some 26) rfl rfl Tryd.func6 (by kernel_rfl) rfl #[.string (⟨#[97]⟩ : ByteArray)] rfl (by (try simp only [List.map_toArray, List.map_cons, List.map_nil]); first | done | rfl | (simp only [List.length_drop, List.length_take]; rfl)) ?_; (with_reducible refine (Own.impl_FromUtf7.calls (⟨#[97]⟩ : ByteArray) t105 false _ A6.out (HENV.out _ (by repeat (first | (with_reducible first | exact HB.out | apply below_alloc | apply pw_below_drewN | apply below_drew1) | exact HB.out)))).mono ?_); rintro e w21 ⟨rfl, hb⟩; refine ⟨_, rfl, ?_⟩; have n0_ := Aside0.mk (below_step (by repeat (first | (with_reducible first | exact HB.out | apply below_alloc | apply pw_below_drewN | apply below_drew1) | exact HB.out)) hb); clear HB; have HB := n0_; clear n0_; (try clear hb); (try clear hb2); (try clear hk); (try clear hi)))
        go_ret
        exact ⟨by first | rfl | (simp [errW_none, errW_some] <;> rfl) | (simp [*, errW_none, errW_some] <;> rfl), by repeat (first | (with_reducible first | exact HB.out | apply below_alloc | apply pw_below_drewN | apply below_drew1) | exact HB.out)⟩

/-- THE ONE PURE STATEMENT of laws_FnFromUtf7: yours. -/
def laws_FnFromUtf7.Pure : Prop := ∀ (a0 : ByteArray), a0.size ≤ 140737488351232 → laws_FnFromUtf7.f a0 = some true
theorem laws_FnFromUtf7.walk (P : laws_FnFromUtf7.Pure) (a0 : ByteArray) (w : World) (w0 : a0.size ≤ 140737488351232) (henv : Own.EnvU w) :
    Calls Tryd.prog 3 #[.string a0] w fun e w' => e = .returned (.bool true) ∧ Below w.heap.size w w' := by
  have h := P a0 w0
  refine (laws_FnFromUtf7.calls a0 true w h henv).mono ?_
  rintro e w' ⟨rfl, hd⟩
  exact ⟨rfl, hd⟩

end Go.Proofs.YtbjhmmiijebehaaDoor.PFnFromUtf7

namespace Go.Proofs.YtbjhmmiijebehaaDoor.Pure
open Go.RowKit Go.Proofs.YtbjhmmiijebehaaDoor.PFnFromUtf7 Go.Proofs.YtbjhmmiijebehaaDoorW.PrintWords Go.Proofs.YtbjhmmiijebehaaDoorW.PrintLast Go.Proofs.YtbjhmmiijebehaaDoor.Own
set_option linter.unusedVariables false
set_option linter.unusedSimpArgs false

theorem from_a : (fromP (⟨#[97]⟩ : ByteArray)).2 = true := by
  have h : trF true (⟨#[97]⟩ : ByteArray).data.toList = some [97] := by
    show trF true [97] = _
    rw [trF_plain true 97 [] (by decide) (by decide), trF_nil]
    rfl
  unfold fromP
  rw [h]
theorem FnFromUtf7 : laws_FnFromUtf7.Pure := by
  intro a0 h0
  unfold laws_FnFromUtf7.f
  by_cases h1 : (a0.size : Int) > 2147483647
  · rw [if_pos h1]
  · rw [if_neg h1]
    by_cases h2 : (a0.size : Int) > 500
    · rw [if_pos h2]
    · rw [if_neg h2]
      have e1 : Own.spec_FromUtf7OfF.f a0 = some (fromP a0) := by unfold Own.spec_FromUtf7OfF.f; rw [if_pos (by omega)]
      have e2 : Own.impl_FromUtf7.f a0 = some (fromP a0) := by unfold Own.impl_FromUtf7.f; rw [if_pos (by omega)]
      have e3 : Own.impl_FromUtf7.f (⟨#[97]⟩ : ByteArray) = some (fromP (⟨#[97]⟩ : ByteArray)) := by unfold Own.impl_FromUtf7.f; rw [if_pos (by decide)]
      rw [e1, e2, e3]
      simp only [Option.bind_some, from_a, if_true, beq_self_eq_true]
      split <;> rfl
end Go.Proofs.YtbjhmmiijebehaaDoor.Pure
