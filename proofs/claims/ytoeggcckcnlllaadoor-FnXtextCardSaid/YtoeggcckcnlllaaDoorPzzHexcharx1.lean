-- Printed for this claim by a copy of the kit's print that takes hand-proved callees (wip/patch_print.py).
import Derived.Test.YtoeggcckcnlllaaDoorPzzHexcharx0
namespace Go.Proofs.YtoeggcckcnlllaaDoor.PzzHexchar
open Go.RowKit Go.Proofs.YtoeggcckcnlllaaDoorW.PrintWords Go.Proofs.YtoeggcckcnlllaaDoorW.PrintLast Go.Proofs.YtoeggcckcnlllaaDoorW.PrintMore
attribute [local go_sem] max2_int min2_int max_two min_two max_three min_three max_four min_four   -- for this text's walks alone
set_option linter.unusedVariables false
set_option linter.unusedSimpArgs false

/-! ### gosmtp_zzHexDigit: function 28 -/
def gosmtp_zzHexDigit.f (a0 : Int) : Option (Bool) := if a0 ≥ 48 then (if a0 ≤ 57 then (some true) else (if a0 ≥ 65 then (some (decide (a0 ≤ 70))) else (some false))) else (if a0 ≥ 65 then (some (decide (a0 ≤ 70))) else (some false))
set_option maxHeartbeats 8000000 in
set_option maxRecDepth 100000 in
theorem gosmtp_zzHexDigit.calls (a0 : Int) (r : Bool) (w : World) (h : gosmtp_zzHexDigit.f a0 = some r) :
    Calls Tryd.prog 28 #[.int .u8 a0] w fun e w' => e = .returned (.bool r) ∧ Drawn0 w w' := by
  have H : (if a0 ≥ 48 then (if a0 ≤ 57 then (some true) else (if a0 ≥ 65 then (some (decide (a0 ≤ 70))) else (some false))) else (if a0 ≥ 65 then (some (decide (a0 ≤ 70))) else (some false))) = some r := h
  clear h
  by_cases c2 : a0 ≥ 48
  · rw [if_pos c2] at H
    have c2b0 : decide (48 ≤ a0) = true := decide_eq_true c2
    clear c2
    by_cases c3 : a0 ≤ 57
    · rw [if_pos c3] at H
      have c3b0 : decide (a0 ≤ 57) = true := decide_eq_true c3
      clear c3
      obtain rfl := Option.some.inj H
      go_enter Tryd.func28, Tryd.ntmps28
      go_wp2
      go_ret
      exact ⟨by first | rfl | (simp; done) | (simp [*]; done), by repeat (first | exact Drawn0.refl _ | apply Drawn0.step)⟩
    · rw [if_neg c3] at H
      have c3b0 : decide (a0 ≤ 57) = false := decide_eq_false c3
      clear c3
      by_cases c4 : a0 ≥ 65
      · rw [if_pos c4] at H
        have c4b0 : decide (65 ≤ a0) = true := decide_eq_true c4
        clear c4
        obtain rfl := Option.some.inj H
        go_enter Tryd.func28, Tryd.ntmps28
        go_wp2
        go_ret
        exact ⟨by first | rfl | (simp; done) | (simp [*]; done), by repeat (first | exact Drawn0.refl _ | apply Drawn0.step)⟩
      · rw [if_neg c4] at H
        have c4b0 : decide (65 ≤ a0) = false := decide_eq_false c4
        clear c4
        obtain rfl := Option.some.inj H
        go_enter Tryd.func28, Tryd.ntmps28
        go_wp2
        go_ret
        exact ⟨by first | rfl | (simp; done) | (simp [*]; done), by repeat (first | exact Drawn0.refl _ | apply Drawn0.step)⟩
  · rw [if_neg c2] at H
    have c2b0 : decide (48 ≤ a0) = false := decide_eq_false c2
    clear c2
    by_cases c5 : a0 ≥ 65
    · rw [if_pos c5] at H
      have c5b0 : decide (65 ≤ a0) = true := decide_eq_true c5
      clear c5
      obtain rfl := Option.some.inj H
      go_enter Tryd.func28, Tryd.ntmps28
      go_wp2
      go_ret
      exact ⟨by first | rfl | (simp; done) | (simp [*]; done), by repeat (first | exact Drawn0.refl _ | apply Drawn0.step)⟩
    · rw [if_neg c5] at H
      have c5b0 : decide (65 ≤ a0) = false := decide_eq_false c5
      clear c5
      obtain rfl := Option.some.inj H
      go_enter Tryd.func28, Tryd.ntmps28
      go_wp2
      go_ret
      exact ⟨by first | rfl | (simp; done) | (simp [*]; done), by repeat (first | exact Drawn0.refl _ | apply Drawn0.step)⟩

/-! ### gosmtp_zzHexchar: function 17 -/
def gosmtp_zzHexchar.l0 : Nat → ByteArray → Int → Int → Option (Int)
  | 0, _, _, _ => none
  | k + 1, x0, x1, x5 => if x5 < 3 then (if (wrap64 (x1 + x5)) < (x0.size : Int) then (if 0 ≤ (wrap64 (x1 + x5)) then ((gosmtp_zzHexDigit.f (bt x0 (wrap64 (x1 + x5)))).bind fun t101 => (if t101 = true then (gosmtp_zzHexchar.l0 k x0 x1 (wrap64 (x5 + 1))) else (some x5))) else (none)) else (some x5)) else (some x5)
def gosmtp_zzHexchar.f (k : Nat) (a0 : ByteArray) (a1 : Int) : Option (Int) := if 0 ≤ a1 then (if a1 < (a0.size : Int) then (if (bt a0 a1) = 43 then (gosmtp_zzHexchar.l0 k a0 a1 1) else (some 0)) else (none)) else (none)
theorem gosmtp_zzHexchar.mono_l : ∀ k, (∀ y0 y1 y2, LeO (gosmtp_zzHexchar.l0 k y0 y1 y2) (gosmtp_zzHexchar.l0 (k + 1) y0 y1 y2))
  | 0 => fun _ _ _ r h => by simp [gosmtp_zzHexchar.l0] at h
  | k + 1 => by
    have ih0 := gosmtp_zzHexchar.mono_l k
    · intro y0 y1 y2
      unfold gosmtp_zzHexchar.l0
      repeat' first
      | (with_reducible exact ih0 _ _ _)
      | (with_reducible exact LeO.refl _)
      | (with_reducible exact LeO.none _)
      | (with_reducible refine LeO.ite ?_ ?_)
      | (with_reducible refine LeO.bind ?_ (fun _ => ?_))
      | exact ih0 _ _ _
      | exact LeO.none _
      | refine LeO.ite ?_ ?_
      | refine LeO.bind ?_ (fun _ => ?_)
theorem gosmtp_zzHexchar.mono : ∀ a0 a1 k, LeO (gosmtp_zzHexchar.f k a0 a1) (gosmtp_zzHexchar.f (k + 1) a0 a1) := by
  intro a0 a1 k
  have ih0 := gosmtp_zzHexchar.mono_l k
  unfold gosmtp_zzHexchar.f
  repeat' first
      | (with_reducible exact ih0 _ _ _)
      | (with_reducible exact LeO.refl _)
      | (with_reducible exact LeO.none _)
      | (with_reducible refine LeO.ite ?_ ?_)
      | (with_reducible refine LeO.bind ?_ (fun _ => ?_))
      | exact ih0 _ _ _
      | exact LeO.none _
      | refine LeO.ite ?_ ?_
      | refine LeO.bind ?_ (fun _ => ?_)
set_option maxHeartbeats 8000000 in
set_option maxRecDepth 100000 in
theorem gosmtp_zzHexchar.calls (k : Nat) (a0 : ByteArray) (a1 : Int) (r : Int) (w : World) (h : gosmtp_zzHexchar.f k a0 a1 = some r) :
    Calls Tryd.prog 17 #[.string a0, .int .i64 a1] w fun e w' => e = .returned (.int .i64 r) ∧ Drawn0 w w' := by
  have H : (if 0 ≤ a1 then (if a1 < (a0.size : Int) then (if (bt a0 a1) = 43 then (gosmtp_zzHexchar.l0 k a0 a1 1) else (some 0)) else (none)) else (none)) = some r := h
  clear h
  by_cases c3 : 0 ≤ a1
  · rw [if_pos c3] at H
    have c3b0 : decide (0 ≤ a1) = true := decide_eq_true c3
    clear c3
    by_cases c4 : a1 < (a0.size : Int)
    · rw [if_pos c4] at H
      have c4b0 : decide (a1 < (a0.size : Int)) = true := decide_eq_true c4
      clear c4
      by_cases c6 : (bt a0 a1) = 43
      · rw [if_pos c6] at H
        have c6b0 : ((bt a0 a1) == 43) = true := beq_iff_eq.mpr c6
        have c6b1 : ((bt a0 a1) != 43) = false := bne_eq_false_iff_eq.mpr c6
        clear c6
        have H' := Aside0.mk H
        clear H
        have p5 : 0 ≤ (a1 : Int) := of_decide_eq_true (by first | (with_reducible assumption) | assumption)
        have q5 : a1 < (a0.size : Int) := of_decide_eq_true (by first | (with_reducible assumption) | assumption)
        have hx5 := bt_at a0 a1
        replace p5 := eq_true p5
        replace q5 := eq_true q5
        go_enter Tryd.func17, Tryd.ntmps17
        go_wp2
        go_loopg [5] k (fun kq v5 w' => ∃ (x5_1 : Int), v5 = .int .i64 x5_1 ∧ Aside0 (gosmtp_zzHexchar.l0 kq a0 a1 x5_1 = some r) ∧ Aside0 (kq ≤ k) ∧ Drawn0 w w')
        case atStart => exact ⟨(1), (by first | rfl | (simp; done) | (simp [*]; done)), H', ⟨Nat.le_refl _⟩, by repeat (first | exact Drawn0.refl _ | apply Drawn0.step)⟩
        case round =>
          clear H'
          try clear c1
          try clear p2
          try clear c3
          try clear c3b0
          try clear c4
          try clear c4b0
          try clear p5
          try clear q5
          try clear hx5
          try clear c6
          try clear c6b0
          try clear c6b1
          try clear p5
          try clear q5
          obtain ⟨x5_1, rfl, HA, HK1, ⟨m1, rfl⟩⟩ := hrel
          cases gk with
          | zero => exact absurd HA.out (by simp [gosmtp_zzHexchar.l0])
          | succ k1 =>
            have H := HA.out
            clear HA
            simp only [gosmtp_zzHexchar.l0] at H
            by_cases c7 : x5_1 < 3
            · rw [if_pos c7] at H
              have c7b0 : decide (x5_1 < 3) = true := decide_eq_true c7
              clear c7
              by_cases c8 : (wrap64 (a1 + x5_1)) < (a0.size : Int)
              · rw [if_pos c8] at H
                have c8b0 : decide ((wrap64 (a1 + x5_1)) < (a0.size : Int)) = true := decide_eq_true c8
                clear c8
                obtain ⟨ji9, hji9⟩ : ∃ j_ : Int, (wrap64 (a1 + x5_1)) = j_ := ⟨_, rfl⟩
                replace H : (if 0 ≤ (ji9) then ((gosmtp_zzHexDigit.f (bt a0 (ji9))).bind fun t101 => (if t101 = true then (gosmtp_zzHexchar.l0 k1 a0 a1 (wrap64 (x5_1 + 1))) else (some x5_1))) else (none)) = some r := by first | (rw [hji9] at H; exact H) | (simp only [hji9] at H ⊢; exact H)
                (try rw [hji9] at c8b0)
                have hji9w : (IntKind.i64.wrap (a1 + x5_1)) = ji9 := (i64_w _).trans hji9
                by_cases c10 : 0 ≤ (ji9)
                · rw [if_pos c10] at H
                  have c10b0 : decide (0 ≤ (ji9)) = true := decide_eq_true c10
                  clear c10
                  replace H := Option.bind_eq_some_iff.mp H
                  obtain ⟨t101, A120, H⟩ := H
                  replace H : (if t101 = true then (gosmtp_zzHexchar.l0 k1 a0 a1 (wrap64 (x5_1 + 1))) else (some x5_1)) = some r := H
                  have A12 := Aside0.mk A120
                  clear A120
                  by_cases c13 : t101 = true
                  · subst c13
                    have H1 : (gosmtp_zzHexchar.l0 k1 a0 a1 (wrap64 (x5_1 + 1))) = some r := by rw [if_pos rfl] at H; exact H
                    clear H
                    have H := H1
                    clear H1
                    have H' := Aside0.mk H
                    clear H
                    have p11 : 0 ≤ ((ji9) : Int) := of_decide_eq_true (by first | (with_reducible assumption) | assumption)
                    have q11 : (ji9) < (a0.size : Int) := of_decide_eq_true (by first | (with_reducible assumption) | assumption)
                    have hx11 := bt_at a0 (ji9)
                    replace p11 := eq_true p11
                    replace q11 := eq_true q11
                    go_wp2_with (first | (go_at_call 28; (with_reducible refine (gosmtp_zzHexDigit.calls (bt a0 (ji9)) true _ A12.out).mono ?_); rintro e w' ⟨rfl, ⟨nd, rfl⟩⟩))
                    go_roundg k1
                    case measure => have := HK1.out; omega
                    case rel => exact ⟨(wrap64 (x5_1 + 1)), (by first | rfl | (simp; done) | (simp [*]; done)), (by first | exact H' | (rw [hji9]; exact H') | (simp only [hji9]; exact H')), ⟨by have := HK1.out; omega⟩, by repeat (first | exact Drawn0.refl _ | apply Drawn0.step)⟩
                  · replace c13 := Bool.eq_false_iff.mpr c13
                    subst c13
                    have H1 : (some x5_1) = some r := by rw [if_neg (show ¬ (false = true) by decide)] at H; exact H
                    clear H
                    have H := H1
                    clear H1
                    obtain rfl := Option.some.inj H
                    have p11 : 0 ≤ ((ji9) : Int) := of_decide_eq_true (by first | (with_reducible assumption) | assumption)
                    have q11 : (ji9) < (a0.size : Int) := of_decide_eq_true (by first | (with_reducible assumption) | assumption)
                    have hx11 := bt_at a0 (ji9)
                    replace p11 := eq_true p11
                    replace q11 := eq_true q11
                    go_wp2_with (first | (go_at_call 28; (with_reducible refine (gosmtp_zzHexDigit.calls (bt a0 (ji9)) false _ A12.out).mono ?_); rintro e w' ⟨rfl, ⟨nd, rfl⟩⟩))
                    go_ret
                    exact ⟨by first | rfl | (simp; done) | (simp only [← hji9] <;> (first | rfl | simp)) | (simp [*]; done), by repeat (first | exact Drawn0.refl _ | apply Drawn0.step)⟩
                · rw [if_neg c10] at H
                  exact absurd H (by simp)
              · rw [if_neg c8] at H
                have c8b0 : decide ((wrap64 (a1 + x5_1)) < (a0.size : Int)) = false := decide_eq_false c8
                clear c8
                obtain rfl := Option.some.inj H
                go_wp2
                go_ret
                exact ⟨by first | rfl | (simp; done) | (simp [*]; done), by repeat (first | exact Drawn0.refl _ | apply Drawn0.step)⟩
            · rw [if_neg c7] at H
              have c7b0 : decide (x5_1 < 3) = false := decide_eq_false c7
              clear c7
              obtain rfl := Option.some.inj H
              go_wp2
              go_ret
              exact ⟨by first | rfl | (simp; done) | (simp [*]; done), by repeat (first | exact Drawn0.refl _ | apply Drawn0.step)⟩
      · rw [if_neg c6] at H
        have c6b0 : ((bt a0 a1) == 43) = false := beq_eq_false_iff_ne.mpr c6
        have c6b1 : ((bt a0 a1) != 43) = true := bne_iff_ne.mpr c6
        obtain rfl := Option.some.inj H
        have p5 : 0 ≤ (a1 : Int) := of_decide_eq_true (by first | (with_reducible assumption) | assumption)
        have q5 : a1 < (a0.size : Int) := of_decide_eq_true (by first | (with_reducible assumption) | assumption)
        have hx5 := bt_at a0 a1
        replace p5 := eq_true p5
        replace q5 := eq_true q5
        go_enter Tryd.func17, Tryd.ntmps17
        go_wp2
        go_ret
        exact ⟨by first | rfl | (simp; done) | (simp [*]; done), by repeat (first | exact Drawn0.refl _ | apply Drawn0.step)⟩
    · rw [if_neg c4] at H
      exact absurd H (by simp)
  · rw [if_neg c3] at H
    exact absurd H (by simp)

end Go.Proofs.YtoeggcckcnlllaaDoor.PzzHexchar
