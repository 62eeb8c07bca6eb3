-- Printed for this claim by a copy of the kit's print that takes hand-proved callees (wip/patch_print.py).
import Derived.Test.YtnokeaiemiiicaaDoorPFnReadCommandx0
import Derived.Test.YtnokeaiemiiicaaDoorPFnReadCommandx1
namespace Go.Proofs.YtnokeaiemiiicaaDoor.PFnReadCommand
open Go.RowKit Go.Proofs.YtnokeaiemiiicaaDoorW.PrintWords Go.Proofs.YtnokeaiemiiicaaDoorW.PrintLast Go.Proofs.YtnokeaiemiiicaaDoorW.PrintMore
attribute [local go_sem] max2_int min2_int max_two min_two max_three min_three max_four min_four   -- for this text's walks alone
set_option linter.unusedVariables false
set_option linter.unusedSimpArgs false

/-! ### laws_FnReadCommand: function 7 -/
def laws_FnReadCommand.j0 : Nat → ByteArray → Bool → Option (Bool)
  | 0, _, _ => none
  | k + 1, x0, x20 => if x20 = true then (some true) else ((spec_SmtpCommand.f k x0).bind fun bt106 => ((Own.impl_ReadCommand.f x0).bind fun bt110 => (if x0.toList = ([] : List UInt8) then (some true) else (if bt106.1.toList = ([83, 84, 65, 82, 84, 84, 76, 83] : List UInt8) then (some true) else (if (bt110.2.2 == bt106.2.2.2) = true then (if bt110.2.2 = true then (if bt110.1.toList = bt106.1.toList then (some (bt110.2.1.toList == bt106.2.1.toList)) else (some false)) else (some true)) else (some false))))))
def laws_FnReadCommand.f (k : Nat) (a0 : ByteArray) : Option (Bool) := if (a0.size : Int) > 2147483647 then (some true) else (if (a0.size : Int) > 300 then (laws_FnReadCommand.j0 k a0 true) else ((spec_Printable16.f k a0).bind fun t105 => (laws_FnReadCommand.j0 k a0 (!t105))))
theorem laws_FnReadCommand.mono_l : ∀ k, (∀ y0 y1, LeO (laws_FnReadCommand.j0 k y0 y1) (laws_FnReadCommand.j0 (k + 1) y0 y1))
  | 0 => fun _ _ r h => by simp [laws_FnReadCommand.j0] at h
  | k + 1 => by
    have ih0 := laws_FnReadCommand.mono_l k
    · intro y0 y1
      unfold laws_FnReadCommand.j0
      repeat' first
      | (with_reducible exact ih0 _ _)
      | (with_reducible exact spec_Printable16.mono _ _)
      | (with_reducible exact spec_SmtpCommand.mono _ _)
      | (with_reducible exact LeO.refl _)
      | (with_reducible exact LeO.none _)
      | (with_reducible refine LeO.ite ?_ ?_)
      | (with_reducible refine LeO.bind ?_ (fun _ => ?_))
      | exact ih0 _ _
      | exact spec_Printable16.mono _ _
      | exact spec_SmtpCommand.mono _ _
      | exact LeO.none _
      | refine LeO.ite ?_ ?_
      | refine LeO.bind ?_ (fun _ => ?_)
theorem laws_FnReadCommand.mono : ∀ a0 k, LeO (laws_FnReadCommand.f k a0) (laws_FnReadCommand.f (k + 1) a0) := by
  intro a0 k
  have ih0 := laws_FnReadCommand.mono_l k
  unfold laws_FnReadCommand.f
  repeat' first
      | (with_reducible exact ih0 _ _)
      | (with_reducible exact spec_Printable16.mono _ _)
      | (with_reducible exact spec_SmtpCommand.mono _ _)
      | (with_reducible exact LeO.refl _)
      | (with_reducible exact LeO.none _)
      | (with_reducible refine LeO.ite ?_ ?_)
      | (with_reducible refine LeO.bind ?_ (fun _ => ?_))
      | exact ih0 _ _
      | exact spec_Printable16.mono _ _
      | exact spec_SmtpCommand.mono _ _
      | exact LeO.none _
      | refine LeO.ite ?_ ?_
      | refine LeO.bind ?_ (fun _ => ?_)
set_option maxHeartbeats 8000000 in
set_option maxRecDepth 100000 in
theorem laws_FnReadCommand.calls (k : Nat) (a0 : ByteArray) (r : Bool) (w : World) (h : laws_FnReadCommand.f k a0 = some r) (henv : Own.EnvR w) :
    Calls Tryd.prog 7 #[.string a0] w fun e w' => e = .returned (.bool r) ∧ Below w.heap.size w w' := by
  have HENV := Aside0.mk henv.all
  clear henv
  have HB := Aside0.mk (Below.refl w.heap.size w)
  have H : (if (a0.size : Int) > 2147483647 then (some true) else (if (a0.size : Int) > 300 then (laws_FnReadCommand.j0 k a0 true) else ((spec_Printable16.f k a0).bind fun t105 => (laws_FnReadCommand.j0 k a0 (!t105))))) = some r := h
  clear h
  by_cases c2 : (a0.size : Int) > 2147483647
  · rw [if_pos c2] at H
    have c2b0 : decide (2147483647 < (a0.size : Int)) = true := decide_eq_true c2
    have c2b1 : decide (2147483647 < a0.size) = true := decide_eq_true (by omega)
    clear c2
    obtain rfl := Option.some.inj H
    go_enter Tryd.func7, Tryd.ntmps7
    go_wp2
    go_ret
    exact ⟨by first | rfl | (simp [errW_none, errW_some] <;> rfl) | (simp [*, errW_none, errW_some] <;> rfl), by repeat (first | (with_reducible first | exact HB.out | apply below_alloc | apply pw_below_drewN | apply below_drew1) | exact HB.out)⟩
  · rw [if_neg c2] at H
    have c2b0 : decide (2147483647 < (a0.size : Int)) = false := decide_eq_false c2
    have c2b1 : decide (2147483647 < a0.size) = false := decide_eq_false (by omega)
    clear c2
    have HC3 := Aside0.mk H
    clear H
    go_enter Tryd.func7, Tryd.ntmps7
    go_upto_region 3 with (fail)
    go_cut [20] (fun v20 wc => ∃ (kq : Nat) (x20_2 : Bool), v20 = .bool x20_2 ∧ Aside0 (laws_FnReadCommand.j0 kq a0 x20_2 = some r) ∧ Aside0 (kq ≤ k) ∧ Aside0 (Below w.heap.size w wc))
    case first =>
      have H := HC3.out
      clear HC3
      by_cases c4 : (a0.size : Int) > 300
      · rw [if_pos c4] at H
        have c4b0 : decide (300 < (a0.size : Int)) = true := decide_eq_true c4
        have c4b1 : decide (300 < a0.size) = true := decide_eq_true (by omega)
        clear c4
        (first | rw [c4b0] | (simp only [i64_w, i32_w]; rw [c4b0]) | skip)
        have H' := Aside0.mk H
        clear H
        go_wp2
        go_meet
        case rel => exact ⟨_, (true), (by first | rfl | (simp; done) | (simp [*]; done)), H', ⟨by first | omega | exact Nat.le_refl _⟩, ⟨by repeat (first | (with_reducible first | exact HB.out | apply below_alloc | apply pw_below_drewN | apply below_drew1) | exact HB.out)⟩⟩
      · rw [if_neg c4] at H
        have c4b0 : decide (300 < (a0.size : Int)) = false := decide_eq_false c4
        have c4b1 : decide (300 < a0.size) = false := decide_eq_false (by omega)
        clear c4
        (first | rw [c4b0] | (simp only [i64_w, i32_w]; rw [c4b0]) | skip)
        replace H := Option.bind_eq_some_iff.mp H
        obtain ⟨t105, A50, H⟩ := H
        replace H : (laws_FnReadCommand.j0 k a0 (!t105)) = some r := H
        have A5 := Aside0.mk A50
        clear A50
        have H' := Aside0.mk H
        clear H
        go_wp2_with (first | (go_at_call 26; (with_reducible refine (spec_Printable16.calls k a0 t105 _ A5.out).mono ?_); rintro e w' ⟨rfl, ⟨nd, rfl⟩⟩))
        go_meet
        case rel => exact ⟨_, (!t105), (by first | rfl | (simp; done) | (simp [*]; done)), H', ⟨by first | omega | exact Nat.le_refl _⟩, ⟨by repeat (first | (with_reducible first | exact HB.out | apply below_alloc | apply pw_below_drewN | apply below_drew1) | exact HB.out)⟩⟩
    case rest =>
      clear HC3
      try clear c2
      try clear c2b0
      try clear c2b1
      try clear p2
      try clear c4
      try clear c4b0
      try clear c4b1
      obtain ⟨kq, x20_2, rfl, HA, HJ2, HB⟩ := hcut
      cases kq with
      | zero => exact absurd HA.out (by simp [laws_FnReadCommand.j0])
      | succ kj2 =>
        have H := HA.out
        clear HA
        simp only [laws_FnReadCommand.j0] at H
        by_cases c6 : x20_2 = true
        · subst c6
          have H1 : (some true) = some r := by rw [if_pos rfl] at H; exact H
          clear H
          have H := H1
          clear H1
          obtain rfl := Option.some.inj H
          go_wp2
          go_ret
          exact ⟨by first | rfl | (simp [errW_none, errW_some] <;> rfl) | (simp [*, errW_none, errW_some] <;> rfl), by repeat (first | (with_reducible first | exact HB.out | apply below_alloc | apply pw_below_drewN | apply below_drew1) | exact HB.out)⟩
        · replace c6 := Bool.eq_false_iff.mpr c6
          subst c6
          have H1 : ((spec_SmtpCommand.f kj2 a0).bind fun bt106 => ((Own.impl_ReadCommand.f a0).bind fun bt110 => (if a0.toList = ([] : List UInt8) then (some true) else (if bt106.1.toList = ([83, 84, 65, 82, 84, 84, 76, 83] : List UInt8) then (some true) else (if (bt110.2.2 == bt106.2.2.2) = true then (if bt110.2.2 = true then (if bt110.1.toList = bt106.1.toList then (some (bt110.2.1.toList == bt106.2.1.toList)) else (some false)) else (some true)) else (some false)))))) = some r := by rw [if_neg (show ¬ (false = true) by decide)] at H; exact H
          clear H
          have H := H1
          clear H1
          replace H := Option.bind_eq_some_iff.mp H
          obtain ⟨⟨t106, t107, t108, t109⟩, A70, H⟩ := H
          replace H : ((Own.impl_ReadCommand.f a0).bind fun bt110 => (if a0.toList = ([] : List UInt8) then (some true) else (if t106.toList = ([83, 84, 65, 82, 84, 84, 76, 83] : List UInt8) then (some true) else (if (bt110.2.2 == t109) = true then (if bt110.2.2 = true then (if bt110.1.toList = t106.toList then (some (bt110.2.1.toList == t107.toList)) else (some false)) else (some true)) else (some false))))) = some r := H
          have A7 := Aside0.mk A70
          clear A70
          replace H := Option.bind_eq_some_iff.mp H
          obtain ⟨⟨t110, t111, t112⟩, A80, H⟩ := H
          replace H : (if a0.toList = ([] : List UInt8) then (some true) else (if t106.toList = ([83, 84, 65, 82, 84, 84, 76, 83] : List UInt8) then (some true) else (if (t112 == t109) = true then (if t112 = true then (if t110.toList = t106.toList then (some (t111.toList == t107.toList)) else (some false)) else (some true)) else (some false)))) = some r := H
          have A8 := Aside0.mk A80
          clear A80
          by_cases c9 : a0.toList = ([] : List UInt8)
          · rw [if_pos c9] at H
            have c9b0 : (a0.toList == ([] : List UInt8)) = true := beq_iff_eq.mpr c9
            have c9b1 : (a0.toList != ([] : List UInt8)) = false := bne_eq_false_iff_eq.mpr c9
            clear c9
            obtain rfl := Option.some.inj H
            go_wp2_with (first | ((with_reducible refine gate_callee (f := 27) rfl ?_); refine goesL_ (some 23) rfl rfl Tryd.func27 (by kernel_rfl) rfl #[.string a0] rfl (by (try simp only [List.map_toArray, List.map_cons, List.map_nil]); first | done | rfl | (simp only [List.length_drop, List.length_take]; rfl)) ?_; (with_reducible refine (spec_SmtpCommand.calls kj2 a0 t106 t107 t108 t109 _ A7.out).mono ?_); rintro e w10 ⟨rfl, hb⟩; refine ⟨_, rfl, ?_⟩; have n0_ := Aside0.mk (below_step (by repeat (first | (with_reducible first | exact HB.out | apply below_alloc | apply pw_below_drewN | apply below_drew1) | exact HB.out)) hb); clear HB; have HB := n0_; clear n0_; (try clear hb); (try clear hb2); (try clear hk); (try clear hi)) | ((with_reducible refine gate_callee (f := 28) rfl ?_); refine goesL_ (some 30) rfl rfl Tryd.func28 (by kernel_rfl) rfl #[.string a0] rfl (by (try simp only [List.map_toArray, List.map_cons, List.map_nil]); first | done | rfl | (simp only [List.length_drop, List.length_take]; rfl)) ?_; (with_reducible refine (Own.impl_ReadCommand.calls a0 t110 t111 t112 _ A8.out (HENV.out _ (by repeat (first | (with_reducible first | exact HB.out | apply below_alloc | apply pw_below_drewN | apply below_drew1) | exact HB.out)))).mono ?_); rintro e w11 ⟨rfl, hb⟩; refine ⟨_, rfl, ?_⟩; have n0_ := Aside0.mk (below_step (by repeat (first | (with_reducible first | exact HB.out | apply below_alloc | apply pw_below_drewN | apply below_drew1) | exact HB.out)) hb); clear HB; have HB := n0_; clear n0_; (try clear hb); (try clear hb2); (try clear hk); (try clear hi)))
            go_ret
            exact ⟨by first | rfl | (simp [errW_none, errW_some] <;> rfl) | (simp [*, errW_none, errW_some] <;> rfl), by repeat (first | (with_reducible first | exact HB.out | apply below_alloc | apply pw_below_drewN | apply below_drew1) | exact HB.out)⟩
          · rw [if_neg c9] at H
            have c9b0 : (a0.toList == ([] : List UInt8)) = false := beq_eq_false_iff_ne.mpr c9
            have c9b1 : (a0.toList != ([] : List UInt8)) = true := bne_iff_ne.mpr c9
            by_cases c12 : t106.toList = ([83, 84, 65, 82, 84, 84, 76, 83] : List UInt8)
            · rw [if_pos c12] at H
              have c12b0 : (t106.toList == ([83, 84, 65, 82, 84, 84, 76, 83] : List UInt8)) = true := beq_iff_eq.mpr c12
              have c12b1 : (t106.toList != ([83, 84, 65, 82, 84, 84, 76, 83] : List UInt8)) = false := bne_eq_false_iff_eq.mpr c12
              clear c12
              obtain rfl := Option.some.inj H
              go_wp2_with (first | ((with_reducible refine gate_callee (f := 27) rfl ?_); refine goesL_ (some 23) rfl rfl Tryd.func27 (by kernel_rfl) rfl #[.string a0] rfl (by (try simp only [List.map_toArray, List.map_cons, List.map_nil]); first | done | rfl | (simp only [List.length_drop, List.length_take]; rfl)) ?_; (with_reducible refine (spec_SmtpCommand.calls kj2 a0 t106 t107 t108 t109 _ A7.out).mono ?_); rintro e w13 ⟨rfl, hb⟩; refine ⟨_, rfl, ?_⟩; have n0_ := Aside0.mk (below_step (by repeat (first | (with_reducible first | exact HB.out | apply below_alloc | apply pw_below_drewN | apply below_drew1) | exact HB.out)) hb); clear HB; have HB := n0_; clear n0_; (try clear hb); (try clear hb2); (try clear hk); (try clear hi)) | ((with_reducible refine gate_callee (f := 28) rfl ?_); refine goesL_ (some 30) rfl rfl Tryd.func28 (by kernel_rfl) rfl #[.string a0] rfl (by (try simp only [List.map_toArray, List.map_cons, List.map_nil]); first | done | rfl | (simp only [List.length_drop, List.length_take]; rfl)) ?_; (with_reducible refine (Own.impl_ReadCommand.calls a0 t110 t111 t112 _ A8.out (HENV.out _ (by repeat (first | (with_reducible first | exact HB.out | apply below_alloc | apply pw_below_drewN | apply below_drew1) | exact HB.out)))).mono ?_); rintro e w14 ⟨rfl, hb⟩; refine ⟨_, rfl, ?_⟩; have n0_ := Aside0.mk (below_step (by repeat (first | (with_reducible first | exact HB.out | apply below_alloc | apply pw_below_drewN | apply below_drew1) | exact HB.out)) hb); clear HB; have HB := n0_; clear n0_; (try clear hb); (try clear hb2); (try clear hk); (try clear hi)))
              go_ret
              exact ⟨by first | rfl | (simp [errW_none, errW_some] <;> rfl) | (simp [*, errW_none, errW_some] <;> rfl), by repeat (first | (with_reducible first | exact HB.out | apply below_alloc | apply pw_below_drewN | apply below_drew1) | exact HB.out)⟩
            · rw [if_neg c12] at H
              have c12b0 : (t106.toList == ([83, 84, 65, 82, 84, 84, 76, 83] : List UInt8)) = false := beq_eq_false_iff_ne.mpr c12
              have c12b1 : (t106.toList != ([83, 84, 65, 82, 84, 84, 76, 83] : List UInt8)) = true := bne_iff_ne.mpr c12
              by_cases c15 : (t112 == t109) = true
              · rw [if_pos c15] at H
                have c15b0 : (t112 == t109) = true := c15
                (try (have c15b1 : decide (t112 = t109) = true := by simpa using c15))
                (try (have c15b2 : (t112 == t109) = true := by simpa using c15))
                clear c15
                by_cases c16 : t112 = true
                · subst c16
                  have H1 : (if t110.toList = t106.toList then (some (t111.toList == t107.toList)) else (some false)) = some r := by rw [if_pos rfl] at H; exact H
                  clear H
                  have H := H1
                  clear H1
                  by_cases c17 : t110.toList = t106.toList
                  · rw [if_pos c17] at H
                    have c17b0 : (t110.toList == t106.toList) = true := beq_iff_eq.mpr c17
                    have c17b1 : (t110.toList != t106.toList) = false := bne_eq_false_iff_eq.mpr c17
                    clear c17
                    obtain rfl := Option.some.inj H
                    go_wp2_with (first | ((with_reducible refine gate_callee (f := 27) rfl ?_); refine goesL_ (some 23) rfl rfl Tryd.func27 (by kernel_rfl) rfl #[.string a0] rfl (by (try simp only [List.map_toArray, List.map_cons, List.map_nil]); first | done | rfl | (simp only [List.length_drop, List.length_take]; rfl)) ?_; (with_reducible refine (spec_SmtpCommand.calls kj2 a0 t106 t107 t108 t109 _ A7.out).mono ?_); rintro e w18 ⟨rfl, hb⟩; refine ⟨_, rfl, ?_⟩; have n0_ := Aside0.mk (below_step (by repeat (first | (with_reducible first | exact HB.out | apply below_alloc | apply pw_below_drewN | apply below_drew1) | exact HB.out)) hb); clear HB; have HB := n0_; clear n0_; (try clear hb); (try clear hb2); (try clear hk); (try clear hi)) | ((with_reducible refine gate_callee (f := 28) rfl ?_); refine goesL_ (some 30) rfl rfl Tryd.func28 (by kernel_rfl) rfl #[.string a0] rfl (by (try simp only [List.map_toArray, List.map_cons, List.map_nil]); first | done | rfl | (simp only [List.length_drop, List.length_take]; rfl)) ?_; (with_reducible refine (Own.impl_ReadCommand.calls a0 t110 t111 true _ A8.out (HENV.out _ (by repeat (first | (with_reducible first | exact HB.out | apply below_alloc | apply pw_below_drewN | apply below_drew1) | exact HB.out)))).mono ?_); rintro e w19 ⟨rfl, hb⟩; refine ⟨_, rfl, ?_⟩; have n0_ := Aside0.mk (below_step (by repeat (first | (with_reducible first | exact HB.out | apply below_alloc | apply pw_below_drewN | apply below_drew1) | exact HB.out)) hb); clear HB; have HB := n0_; clear n0_; (try clear hb); (try clear hb2); (try clear hk); (try clear hi)))
                    go_ret
                    exact ⟨by first | rfl | (simp [errW_none, errW_some] <;> rfl) | (simp [*, errW_none, errW_some] <;> rfl), by repeat (first | (with_reducible first | exact HB.out | apply below_alloc | apply pw_below_drewN | apply below_drew1) | exact HB.out)⟩
                  · rw [if_neg c17] at H
                    have c17b0 : (t110.toList == t106.toList) = false := beq_eq_false_iff_ne.mpr c17
                    have c17b1 : (t110.toList != t106.toList) = true := bne_iff_ne.mpr c17
                    obtain rfl := Option.some.inj H
                    go_wp2_with (first | ((with_reducible refine gate_callee (f := 27) rfl ?_); refine goesL_ (some 23) rfl rfl Tryd.func27 (by kernel_rfl) rfl #[.string a0] rfl (by (try simp only [List.map_toArray, List.map_cons, List.map_nil]); first | done | rfl | (simp only [List.length_drop, List.length_take]; rfl)) ?_; (with_reducible refine (spec_SmtpCommand.calls kj2 a0 t106 t107 t108 t109 _ A7.out).mono ?_); rintro e w20 ⟨rfl, hb⟩; refine ⟨_, rfl, ?_⟩; have n0_ := Aside0.mk (below_step (by repeat (first | (with_reducible first | exact HB.out | apply below_alloc | apply pw_below_drewN | apply below_drew1) | exact HB.out)) hb); clear HB; have HB := n0_; clear n0_; (try clear hb); (try clear hb2); (try clear hk); (try clear hi)) | ((with_reducible refine gate_callee (f := 28) rfl ?_); refine goesL_ (some 30) rfl rfl Tryd.func28 (by kernel_rfl) rfl #[.string a0] rfl (by (try simp only [List.map_toArray, List.map_cons, List.map_nil]); first | done | rfl | (simp only [List.length_drop, List.length_take]; rfl)) ?_; (with_reducible refine (Own.impl_ReadCommand.calls a0 t110 t111 true _ A8.out (HENV.out _ (by repeat (first | (with_reducible first | exact HB.out | apply below_alloc | apply pw_below_drewN | apply below_drew1) | exact HB.out)))).mono ?_); rintro e w21 ⟨rfl, hb⟩; refine ⟨_, rfl, ?_⟩; have n0_ := Aside0.mk (below_step (by repeat (first | (with_reducible first | exact HB.out | apply below_alloc | apply pw_below_drewN | apply below_drew1) | exact HB.out)) hb); clear HB; have HB := n0_; clear n0_; (try clear hb); (try clear hb2); (try clear hk); (try clear hi)))
                    go_ret
                    exact ⟨by first | rfl | (simp [errW_none, errW_some] <;> rfl) | (simp [*, errW_none, errW_some] <;> rfl), by repeat (first | (with_reducible first | exact HB.out | apply below_alloc | apply pw_below_drewN | apply below_drew1) | exact HB.out)⟩
                · replace c16 := Bool.eq_false_iff.mpr c16
                  subst c16
                  have H1 : (some true) = some r := by rw [if_neg (show ¬ (false = true) by decide)] at H; exact H
                  clear H
                  have H := H1
                  clear H1
                  obtain rfl := Option.some.inj H
                  go_wp2_with (first | ((with_reducible refine gate_callee (f := 27) rfl ?_); refine goesL_ (some 23) rfl rfl Tryd.func27 (by kernel_rfl) rfl #[.string a0] rfl (by (try simp only [List.map_toArray, List.map_cons, List.map_nil]); first | done | rfl | (simp only [List.length_drop, List.length_take]; rfl)) ?_; (with_reducible refine (spec_SmtpCommand.calls kj2 a0 t106 t107 t108 t109 _ A7.out).mono ?_); rintro e w22 ⟨rfl, hb⟩; refine ⟨_, rfl, ?_⟩; have n0_ := Aside0.mk (below_step (by repeat (first | (with_reducible first | exact HB.out | apply below_alloc | apply pw_below_drewN | apply below_drew1) | exact HB.out)) hb); clear HB; have HB := n0_; clear n0_; (try clear hb); (try clear hb2); (try clear hk); (try clear hi)) | ((with_reducible refine gate_callee (f := 28) rfl ?_); refine goesL_ (some 30) rfl rfl Tryd.func28 (by kernel_rfl) rfl #[.string a0] rfl (by (try simp only [List.map_toArray, List.map_cons, List.map_nil]); first | done | rfl | (simp only [List.length_drop, List.length_take]; rfl)) ?_; (with_reducible refine (Own.impl_ReadCommand.calls a0 t110 t111 false _ A8.out (HENV.out _ (by repeat (first | (with_reducible first | exact HB.out | apply below_alloc | apply pw_below_drewN | apply below_drew1) | exact HB.out)))).mono ?_); rintro e w23 ⟨rfl, hb⟩; refine ⟨_, rfl, ?_⟩; have n0_ := Aside0.mk (below_step (by repeat (first | (with_reducible first | exact HB.out | apply below_alloc | apply pw_below_drewN | apply below_drew1) | exact HB.out)) hb); clear HB; have HB := n0_; clear n0_; (try clear hb); (try clear hb2); (try clear hk); (try clear hi)))
                  go_ret
                  exact ⟨by first | rfl | (simp [errW_none, errW_some] <;> rfl) | (simp [*, errW_none, errW_some] <;> rfl), by repeat (first | (with_reducible first | exact HB.out | apply below_alloc | apply pw_below_drewN | apply below_drew1) | exact HB.out)⟩
              · rw [if_neg c15] at H
                have c15b0 : (t112 == t109) = false := by simpa using c15
                (try (have c15b1 : decide (t112 = t109) = false := by simpa using c15))
                (try (have c15b2 : (t112 == t109) = false := by simpa using c15))
                (try (have c15b3 : ¬ (t112 = t109) := by simpa using c15))
                clear c15
                obtain rfl := Option.some.inj H
                go_wp2_with (first | ((with_reducible refine gate_callee (f := 27) rfl ?_); refine goesL_ (some 23) rfl rfl Tryd.func27 (by kernel_rfl) rfl #[.string a0] rfl (by (try simp only [List.map_toArray, List.map_cons, List.map_nil]); first | done | rfl | (simp only [List.length_drop, List.length_take]; rfl)) ?_; (with_reducible refine (spec_SmtpCommand.calls kj2 a0 t106 t107 t108 t109 _ A7.out).mono ?_); rintro e w24 ⟨rfl, hb⟩; refine ⟨_, rfl, ?_⟩; have n0_ := Aside0.mk (below_step (by repeat (first | (with_reducible first | exact HB.out | apply below_alloc | apply pw_below_drewN | apply below_drew1) | exact HB.out)) hb); clear HB; have HB := n0_; clear n0_; (try clear hb); (try clear hb2); (try clear hk); (try clear hi)) | ((with_reducible refine gate_callee (f := 28) rfl ?_); refine goesL_ (some 30) rfl rfl Tryd.func28 (by kernel_rfl) rfl #[.string a0] rfl (by (try simp only [List.map_toArray, List.map_cons, List.map_nil]); first | done | rfl | (simp only [List.length_drop, List.length_take]; rfl)) ?_; (with_reducible refine (Own.impl_ReadCommand.calls a0 t110 t111 t112 _ A8.out (HENV.out _ (by repeat (first | (with_reducible first | exact HB.out | apply below_alloc | apply pw_below_drewN | apply below_drew1) | exact HB.out)))).mono ?_); rintro e w25 ⟨rfl, hb⟩; refine ⟨_, rfl, ?_⟩; have n0_ := Aside0.mk (below_step (by repeat (first | (with_reducible first | exact HB.out | apply below_alloc | apply pw_below_drewN | apply below_drew1) | exact HB.out)) hb); clear HB; have HB := n0_; clear n0_; (try clear hb); (try clear hb2); (try clear hk); (try clear hi)))
                go_ret
                exact ⟨by first | rfl | (simp [errW_none, errW_some] <;> rfl) | (simp [*, errW_none, errW_some] <;> rfl), by repeat (first | (with_reducible first | exact HB.out | apply below_alloc | apply pw_below_drewN | apply below_drew1) | exact HB.out)⟩

/-- THE ONE PURE STATEMENT of laws_FnReadCommand: yours. -/
def laws_FnReadCommand.Pure : Prop := ∀ (a0 : ByteArray), a0.size ≤ 140737488351232 → ∃ k, laws_FnReadCommand.f k a0 = some true
theorem laws_FnReadCommand.walk (P : laws_FnReadCommand.Pure) (a0 : ByteArray) (w : World) (w0 : a0.size ≤ 140737488351232) (henv : Own.EnvR w) :
    Calls Tryd.prog 7 #[.string a0] w fun e w' => e = .returned (.bool true) ∧ Below w.heap.size w w' := by
  obtain ⟨k, h⟩ := P a0 w0
  refine (laws_FnReadCommand.calls k a0 true w h henv).mono ?_
  rintro e w' ⟨rfl, hd⟩
  exact ⟨rfl, hd⟩

end Go.Proofs.YtnokeaiemiiicaaDoor.PFnReadCommand
