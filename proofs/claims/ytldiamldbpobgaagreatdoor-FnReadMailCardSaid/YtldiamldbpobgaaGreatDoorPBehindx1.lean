-- Printed for this claim by a copy of the kit's print that takes hand-proved callees (wip/patch_print.py).
import Derived.Test.YtldiamldbpobgaaGreatDoorPBehindx0
namespace Go.Proofs.YtldiamldbpobgaaGreatDoor.PBehind
open Go.RowKit Go.Proofs.YtldiamldbpobgaaGreatDoorW.PrintWords Go.Proofs.YtldiamldbpobgaaGreatDoorW.PrintLast Go.Proofs.YtldiamldbpobgaaGreatDoorW.PrintMore
attribute [local go_sem] max2_int min2_int max_two min_two max_three min_three max_four min_four   -- for this text's walks alone
set_option linter.unusedVariables false
set_option linter.unusedSimpArgs false

/-! ### spec_trimBlanks: function 12 -/
mutual
def spec_trimBlanks.j1 : Nat → ByteArray → Option (ByteArray)
  | 0, _ => none
  | k + 1, x0 => spec_trimBlanks.l1 k x0
def spec_trimBlanks.l1 : Nat → ByteArray → Option (ByteArray)
  | 0, _ => none
  | k + 1, x0 => if (x0.size : Int) > 0 then (if 0 ≤ (wrap64 ((x0.size : Int) - 1)) then (if (wrap64 ((x0.size : Int) - 1)) < (x0.size : Int) then (if (bt x0 (wrap64 ((x0.size : Int) - 1))) = 32 then (if (wrap64 ((x0.size : Int) - 1)) ≤ (x0.size : Int) then (spec_trimBlanks.l1 k (x0.extract 0 ((wrap64 ((x0.size : Int) - 1)) : Int).toNat)) else (none)) else (some x0)) else (none)) else (none)) else (some x0)
def spec_trimBlanks.l0 : Nat → ByteArray → Option (ByteArray)
  | 0, _ => none
  | k + 1, x0 => if (x0.size : Int) > 0 then (if 0 < (x0.size : Int) then (if (bt x0 0) = 32 then (if 1 ≤ (x0.size : Int) then (spec_trimBlanks.l0 k (x0.extract 1 x0.size)) else (none)) else (spec_trimBlanks.j1 k x0)) else (none)) else (spec_trimBlanks.j1 k x0)
end
def spec_trimBlanks.f (k : Nat) (a0 : ByteArray) : Option (ByteArray) := spec_trimBlanks.l0 k a0
theorem spec_trimBlanks.mono_l : ∀ k, (∀ y0, LeO (spec_trimBlanks.j1 k y0) (spec_trimBlanks.j1 (k + 1) y0)) ∧ (∀ y0, LeO (spec_trimBlanks.l1 k y0) (spec_trimBlanks.l1 (k + 1) y0)) ∧ (∀ y0, LeO (spec_trimBlanks.l0 k y0) (spec_trimBlanks.l0 (k + 1) y0))
  | 0 => ⟨fun _ r h => by simp [spec_trimBlanks.j1] at h, fun _ r h => by simp [spec_trimBlanks.l1] at h, fun _ r h => by simp [spec_trimBlanks.l0] at h⟩
  | k + 1 => by
    obtain ⟨ih0, ih1, ih2⟩ := spec_trimBlanks.mono_l k
    refine ⟨?_, ?_, ?_⟩
    · intro y0
      unfold spec_trimBlanks.j1
      repeat' first
      | (with_reducible exact ih0 _)
      | (with_reducible exact ih1 _)
      | (with_reducible exact ih2 _)
      | (with_reducible exact LeO.refl _)
      | (with_reducible exact LeO.none _)
      | (with_reducible refine LeO.ite ?_ ?_)
      | (with_reducible refine LeO.bind ?_ (fun _ => ?_))
      | exact ih0 _
      | exact ih1 _
      | exact ih2 _
      | exact LeO.none _
      | refine LeO.ite ?_ ?_
      | refine LeO.bind ?_ (fun _ => ?_)
    · intro y0
      unfold spec_trimBlanks.l1
      repeat' first
      | (with_reducible exact ih0 _)
      | (with_reducible exact ih1 _)
      | (with_reducible exact ih2 _)
      | (with_reducible exact LeO.refl _)
      | (with_reducible exact LeO.none _)
      | (with_reducible refine LeO.ite ?_ ?_)
      | (with_reducible refine LeO.bind ?_ (fun _ => ?_))
      | exact ih0 _
      | exact ih1 _
      | exact ih2 _
      | exact LeO.none _
      | refine LeO.ite ?_ ?_
      | refine LeO.bind ?_ (fun _ => ?_)
    · intro y0
      unfold spec_trimBlanks.l0
      repeat' first
      | (with_reducible exact ih0 _)
      | (with_reducible exact ih1 _)
      | (with_reducible exact ih2 _)
      | (with_reducible exact LeO.refl _)
      | (with_reducible exact LeO.none _)
      | (with_reducible refine LeO.ite ?_ ?_)
      | (with_reducible refine LeO.bind ?_ (fun _ => ?_))
      | exact ih0 _
      | exact ih1 _
      | exact ih2 _
      | exact LeO.none _
      | refine LeO.ite ?_ ?_
      | refine LeO.bind ?_ (fun _ => ?_)
theorem spec_trimBlanks.mono : ∀ a0 k, LeO (spec_trimBlanks.f k a0) (spec_trimBlanks.f (k + 1) a0) := by
  intro a0 k
  obtain ⟨ih0, ih1, ih2⟩ := spec_trimBlanks.mono_l k
  unfold spec_trimBlanks.f
  repeat' first
      | (with_reducible exact ih0 _)
      | (with_reducible exact ih1 _)
      | (with_reducible exact ih2 _)
      | (with_reducible exact LeO.refl _)
      | (with_reducible exact LeO.none _)
      | (with_reducible refine LeO.ite ?_ ?_)
      | (with_reducible refine LeO.bind ?_ (fun _ => ?_))
      | exact ih0 _
      | exact ih1 _
      | exact ih2 _
      | exact LeO.none _
      | refine LeO.ite ?_ ?_
      | refine LeO.bind ?_ (fun _ => ?_)
set_option maxHeartbeats 8000000 in
set_option maxRecDepth 100000 in
theorem spec_trimBlanks.calls (k : Nat) (a0 : ByteArray) (r : ByteArray) (w : World) (h : spec_trimBlanks.f k a0 = some r) :
    Calls Tryz.prog 12 #[.string a0] w fun e w' => e = .returned (.string r) ∧ Drawn0 w w' := by
  have H : (spec_trimBlanks.l0 k a0) = some r := h
  clear h
  have HC2 := Aside0.mk H
  clear H
  go_enter Tryz.func12, Tryz.ntmps12
  go_upto_block 0 with (fail)
  go_cut [0] (fun v0 wc => ∃ (kq : Nat) (x0_1 : ByteArray), v0 = .string x0_1 ∧ Aside0 (spec_trimBlanks.j1 kq x0_1 = some r) ∧ Aside0 (kq ≤ k) ∧ Drawn0 w wc)
  case first =>
    have H := HC2.out
    clear HC2
    have H' := Aside0.mk H
    clear H
    go_wp2
    go_loopg [0] k (fun kq v0 w' => ∃ (x0_1 : ByteArray), v0 = .string x0_1 ∧ Aside0 (spec_trimBlanks.l0 kq x0_1 = some r) ∧ Aside0 (kq ≤ k) ∧ Drawn0 w w')
    case atStart => exact ⟨(a0), (by first | rfl | (simp; done) | (simp [*]; done)), H', ⟨Nat.le_refl _⟩, by repeat (first | exact Drawn0.refl _ | apply Drawn0.step)⟩
    case round =>
      clear H'
      try clear c1
      try clear p2
      obtain ⟨x0_1, rfl, HA, HK1, ⟨m1, rfl⟩⟩ := hrel
      cases gk with
      | zero => exact absurd HA.out (by simp [spec_trimBlanks.l0])
      | succ k1 =>
        have H := HA.out
        clear HA
        simp only [spec_trimBlanks.l0] at H
        by_cases c3 : (x0_1.size : Int) > 0
        · rw [if_pos c3] at H
          have c3b0 : decide (0 < (x0_1.size : Int)) = true := decide_eq_true c3
          have c3b1 : decide (0 < x0_1.size) = true := decide_eq_true (by omega)
          clear c3
          (first | rw [c3b0] | (simp only [i64_w, i32_w]; rw [c3b0]) | skip)
          by_cases c4 : 0 < (x0_1.size : Int)
          · rw [if_pos c4] at H
            have c4b0 : decide (0 < (x0_1.size : Int)) = true := decide_eq_true c4
            have c4b1 : decide (0 < x0_1.size) = true := decide_eq_true (by omega)
            clear c4
            by_cases c6 : (bt x0_1 0) = 32
            · rw [if_pos c6] at H
              have c6b0 : ((bt x0_1 0) == 32) = true := beq_iff_eq.mpr c6
              have c6b1 : ((bt x0_1 0) != 32) = false := bne_eq_false_iff_eq.mpr c6
              clear c6
              by_cases c7 : 1 ≤ (x0_1.size : Int)
              · rw [if_pos c7] at H
                have c7b0 := eq_true c7
                have c7b1 : decide (1 ≤ (x0_1.size : Int)) = true := decide_eq_true c7
                clear c7
                have H' := Aside0.mk H
                clear H
                have p5 : 0 ≤ (0 : Int) := (by omega)
                have q5 : 0 < x0_1.size := (by have : (0 : Int) < (x0_1.size : Int) := of_decide_eq_true (by first | (with_reducible assumption) | assumption); omega)
                have hx5 : ∀ h : 0 < x0_1.size, ((x0_1[0]'h).toNat : Int) = bt x0_1 0 := bt_at x0_1 0
                clear p5
                have qi5 : (0 < (x0_1.size : Int)) = True := eq_true (of_decide_eq_true (by first | (with_reducible assumption) | assumption))
                replace q5 := eq_true q5
                go_wp2
                go_roundg k1
                case measure => have := HK1.out; omega
                case rel => exact ⟨(x0_1.extract 1 x0_1.size), (by first | rfl | (simp; done) | (simp [*]; done)), H', ⟨by have := HK1.out; omega⟩, by repeat (first | exact Drawn0.refl _ | apply Drawn0.step)⟩
              · rw [if_neg c7] at H
                exact absurd H (by simp)
            · rw [if_neg c6] at H
              have c6b0 : ((bt x0_1 0) == 32) = false := beq_eq_false_iff_ne.mpr c6
              have c6b1 : ((bt x0_1 0) != 32) = true := bne_iff_ne.mpr c6
              have H' := Aside0.mk H
              clear H
              have p5 : 0 ≤ (0 : Int) := (by omega)
              have q5 : 0 < x0_1.size := (by have : (0 : Int) < (x0_1.size : Int) := of_decide_eq_true (by first | (with_reducible assumption) | assumption); omega)
              have hx5 : ∀ h : 0 < x0_1.size, ((x0_1[0]'h).toNat : Int) = bt x0_1 0 := bt_at x0_1 0
              clear p5
              have qi5 : (0 < (x0_1.size : Int)) = True := eq_true (of_decide_eq_true (by first | (with_reducible assumption) | assumption))
              replace q5 := eq_true q5
              go_wp2
              go_meet
              case rel => exact ⟨_, (x0_1), (by first | rfl | (simp; done) | (simp [*]; done)), H', ⟨by have := HK1.out; first | omega | exact Nat.le_refl _⟩, by repeat (first | exact Drawn0.refl _ | apply Drawn0.step)⟩
          · rw [if_neg c4] at H
            exact absurd H (by simp)
        · rw [if_neg c3] at H
          have c3b0 : decide (0 < (x0_1.size : Int)) = false := decide_eq_false c3
          have c3b1 : decide (0 < x0_1.size) = false := decide_eq_false (by omega)
          clear c3
          (first | rw [c3b0] | (simp only [i64_w, i32_w]; rw [c3b0]) | skip)
          have H' := Aside0.mk H
          clear H
          go_wp2
          go_meet
          case rel => exact ⟨_, (x0_1), (by first | rfl | (simp; done) | (simp [*]; done)), H', ⟨by have := HK1.out; first | omega | exact Nat.le_refl _⟩, by repeat (first | exact Drawn0.refl _ | apply Drawn0.step)⟩
  case rest =>
    clear HC2
    try clear c1
    try clear p2
    try clear c3
    try clear c3b0
    try clear c3b1
    try clear c4
    try clear c4b0
    try clear c4b1
    try clear p5
    try clear q5
    try clear hx5
    try clear qi5
    try clear c6
    try clear c6b0
    try clear c6b1
    try clear c7
    try clear c7b0
    try clear c7b1
    try clear p2
    try clear p5
    try clear q5
    obtain ⟨kq, x0_1, rfl, HA, HJ1, ⟨mc1, rfl⟩⟩ := hcut
    cases kq with
    | zero => exact absurd HA.out (by simp [spec_trimBlanks.j1])
    | succ kj1 =>
      have H := HA.out
      clear HA
      simp only [spec_trimBlanks.j1] at H
      have H' := Aside0.mk H
      clear H
      go_wp2
      go_loopg [0] kj1 (fun kq v0 w' => ∃ (x0_2 : ByteArray), v0 = .string x0_2 ∧ Aside0 (spec_trimBlanks.l1 kq x0_2 = some r) ∧ Aside0 (kq ≤ kj1) ∧ Drawn0 w w')
      case atStart => exact ⟨(x0_1), (by first | rfl | (simp; done) | (simp [*]; done)), H', ⟨Nat.le_refl _⟩, by repeat (first | exact Drawn0.refl _ | apply Drawn0.step)⟩
      case round =>
        clear H'
        try clear c1
        try clear p2
        try clear c3
        try clear c3b0
        try clear c3b1
        try clear c4
        try clear c4b0
        try clear c4b1
        try clear p5
        try clear q5
        try clear hx5
        try clear qi5
        try clear c6
        try clear c6b0
        try clear c6b1
        try clear c7
        try clear c7b0
        try clear c7b1
        try clear p2
        try clear p5
        try clear q5
        obtain ⟨x0_2, rfl, HA, HK2, ⟨m2, rfl⟩⟩ := hrel
        cases gk with
        | zero => exact absurd HA.out (by simp [spec_trimBlanks.l1])
        | succ k2 =>
          have H := HA.out
          clear HA
          simp only [spec_trimBlanks.l1] at H
          by_cases c8 : (x0_2.size : Int) > 0
          · rw [if_pos c8] at H
            have c8b0 : decide (0 < (x0_2.size : Int)) = true := decide_eq_true c8
            have c8b1 : decide (0 < x0_2.size) = true := decide_eq_true (by omega)
            clear c8
            obtain ⟨ji9, hji9⟩ : ∃ j_ : Int, (wrap64 ((x0_2.size : Int) - 1)) = j_ := ⟨_, rfl⟩
            replace H : (if 0 ≤ (ji9) then (if (ji9) < (x0_2.size : Int) then (if (bt x0_2 (ji9)) = 32 then (if (ji9) ≤ (x0_2.size : Int) then (spec_trimBlanks.l1 k2 (x0_2.extract 0 ((ji9) : Int).toNat)) else (none)) else (some x0_2)) else (none)) else (none)) = some r := by first | (rw [hji9] at H; exact H) | (simp only [hji9] at H ⊢; exact H)
            have hji9w : (IntKind.i64.wrap ((x0_2.size : Int) - 1)) = ji9 := (i64_w _).trans hji9
            by_cases c10 : 0 ≤ (ji9)
            · rw [if_pos c10] at H
              have c10b0 : decide (0 ≤ (ji9)) = true := decide_eq_true c10
              clear c10
              by_cases c11 : (ji9) < (x0_2.size : Int)
              · rw [if_pos c11] at H
                have c11b0 : decide ((ji9) < (x0_2.size : Int)) = true := decide_eq_true c11
                clear c11
                by_cases c13 : (bt x0_2 (ji9)) = 32
                · rw [if_pos c13] at H
                  have c13b0 : ((bt x0_2 (ji9)) == 32) = true := beq_iff_eq.mpr c13
                  have c13b1 : ((bt x0_2 (ji9)) != 32) = false := bne_eq_false_iff_eq.mpr c13
                  clear c13
                  have c14b0 := eq_true (of_decide_eq_true (by first | (with_reducible assumption) | assumption) : 0 ≤ (ji9))
                  by_cases c15 : (ji9) ≤ (x0_2.size : Int)
                  · rw [if_pos c15] at H
                    have c15b0 := eq_true c15
                    have c15b1 : decide ((ji9) ≤ (x0_2.size : Int)) = true := decide_eq_true c15
                    clear c15
                    have H' := Aside0.mk H
                    clear H
                    have p12 : 0 ≤ ((ji9) : Int) := of_decide_eq_true (by first | (with_reducible assumption) | assumption)
                    have q12 : (ji9) < (x0_2.size : Int) := of_decide_eq_true (by first | (with_reducible assumption) | assumption)
                    have hx12 := bt_at x0_2 (ji9)
                    replace p12 := eq_true p12
                    replace q12 := eq_true q12
                    go_wp2
                    go_roundg k2
                    case measure => have := HJ1.out; have := HK2.out; omega
                    case rel => exact ⟨(x0_2.extract 0 ((ji9) : Int).toNat), (by first | rfl | (simp; done) | (simp only [← hji9] <;> (first | rfl | simp)) | (simp [*]; done)), (by first | exact H' | (rw [hji9]; exact H') | (simp only [hji9]; exact H')), ⟨by have := HJ1.out; have := HK2.out; omega⟩, by repeat (first | exact Drawn0.refl _ | apply Drawn0.step)⟩
                  · rw [if_neg c15] at H
                    exact absurd H (by simp)
                · rw [if_neg c13] at H
                  have c13b0 : ((bt x0_2 (ji9)) == 32) = false := beq_eq_false_iff_ne.mpr c13
                  have c13b1 : ((bt x0_2 (ji9)) != 32) = true := bne_iff_ne.mpr c13
                  obtain rfl := Option.some.inj H
                  have p12 : 0 ≤ ((ji9) : Int) := of_decide_eq_true (by first | (with_reducible assumption) | assumption)
                  have q12 : (ji9) < (x0_2.size : Int) := of_decide_eq_true (by first | (with_reducible assumption) | assumption)
                  have hx12 := bt_at x0_2 (ji9)
                  replace p12 := eq_true p12
                  replace q12 := eq_true q12
                  go_wp2
                  go_ret
                  exact ⟨by first | rfl | (simp; done) | (simp only [← hji9] <;> (first | rfl | simp)) | (simp [*]; done), by repeat (first | exact Drawn0.refl _ | apply Drawn0.step)⟩
              · rw [if_neg c11] at H
                exact absurd H (by simp)
            · rw [if_neg c10] at H
              exact absurd H (by simp)
          · rw [if_neg c8] at H
            have c8b0 : decide (0 < (x0_2.size : Int)) = false := decide_eq_false c8
            have c8b1 : decide (0 < x0_2.size) = false := decide_eq_false (by omega)
            clear c8
            obtain rfl := Option.some.inj H
            go_wp2
            go_ret
            exact ⟨by first | rfl | (simp; done) | (simp [*]; done), by repeat (first | exact Drawn0.refl _ | apply Drawn0.step)⟩

/-! ### spec_Behind: function 6 -/
def spec_Behind.f (k : Nat) (a0 : ByteArray) (a1 : ByteArray) : Option (ByteArray × Bool) := if (a0.size : Int) < (a1.size : Int) then (some ((⟨#[]⟩ : ByteArray), false)) else (if 0 ≤ (a1.size : Int) then (if (a1.size : Int) ≤ (a0.size : Int) then ((Own.spec_Upper.f (a0.extract 0 ((a1.size : Int) : Int).toNat)).bind fun t101 => (if t101.toList = a1.toList then ((spec_trimBlanks.f k (a0.extract ((a1.size : Int) : Int).toNat a0.size)).bind fun t102 => (some (t102, true))) else (some ((⟨#[]⟩ : ByteArray), false)))) else (none)) else (none))
theorem spec_Behind.mono : ∀ a0 a1 k, LeO (spec_Behind.f k a0 a1) (spec_Behind.f (k + 1) a0 a1) := by
  intro a0 a1 k
  unfold spec_Behind.f
  repeat' first
      | (with_reducible exact spec_trimBlanks.mono _ _)
      | (with_reducible exact LeO.refl _)
      | (with_reducible exact LeO.none _)
      | (with_reducible refine LeO.ite ?_ ?_)
      | (with_reducible refine LeO.bind ?_ (fun _ => ?_))
      | exact spec_trimBlanks.mono _ _
      | exact LeO.none _
      | refine LeO.ite ?_ ?_
      | refine LeO.bind ?_ (fun _ => ?_)
set_option maxHeartbeats 8000000 in
set_option maxRecDepth 100000 in
theorem spec_Behind.calls (k : Nat) (a0 : ByteArray) (a1 : ByteArray) (r1 : ByteArray) (r2 : Bool) (w : World) (h : spec_Behind.f k a0 a1 = some (r1, r2)) :
    Calls Tryz.prog 6 #[.string a0, .string a1] w fun e w' => e = .returned (.tuple #[.string r1, .bool r2]) ∧ Below w.heap.size w w' := by
  have HB := Aside0.mk (Below.refl w.heap.size w)
  have H : (if (a0.size : Int) < (a1.size : Int) then (some ((⟨#[]⟩ : ByteArray), false)) else (if 0 ≤ (a1.size : Int) then (if (a1.size : Int) ≤ (a0.size : Int) then ((Own.spec_Upper.f (a0.extract 0 ((a1.size : Int) : Int).toNat)).bind fun t101 => (if t101.toList = a1.toList then ((spec_trimBlanks.f k (a0.extract ((a1.size : Int) : Int).toNat a0.size)).bind fun t102 => (some (t102, true))) else (some ((⟨#[]⟩ : ByteArray), false)))) else (none)) else (none))) = some (r1, r2) := h
  clear h
  by_cases c3 : (a0.size : Int) < (a1.size : Int)
  · rw [if_pos c3] at H
    have c3b0 : decide ((a0.size : Int) < (a1.size : Int)) = true := decide_eq_true c3
    have c3b1 : decide (a0.size < a1.size) = true := decide_eq_true (Int.ofNat_lt.mp c3)
    clear c3
    simp only [Option.some.injEq, Prod.mk.injEq] at H
    obtain ⟨rfl, rfl⟩ := H
    go_enter Tryz.func6, Tryz.ntmps6
    go_wp2
    go_ret2
    exact ⟨by first | rfl | (simp [errW_none, errW_some] <;> rfl) | (simp [*, errW_none, errW_some] <;> rfl), by repeat (first | (with_reducible first | exact HB.out | apply below_alloc | apply pw_below_drewN | apply below_drew1) | exact HB.out)⟩
  · rw [if_neg c3] at H
    have c3b0 : decide ((a0.size : Int) < (a1.size : Int)) = false := decide_eq_false c3
    have c3b1 : decide (a0.size < a1.size) = false := decide_eq_false (fun h => c3 (Int.ofNat_lt.mpr h))
    clear c3
    by_cases c4 : 0 ≤ (a1.size : Int)
    · rw [if_pos c4] at H
      have c4b0 := eq_true c4
      have c4b1 : decide (0 ≤ (a1.size : Int)) = true := decide_eq_true c4
      clear c4
      by_cases c5 : (a1.size : Int) ≤ (a0.size : Int)
      · rw [if_pos c5] at H
        have c5b0 := eq_true c5
        have c5b1 : decide ((a1.size : Int) ≤ (a0.size : Int)) = true := decide_eq_true c5
        clear c5
        replace H := Option.bind_eq_some_iff.mp H
        obtain ⟨t101, A60, H⟩ := H
        replace H : (if t101.toList = a1.toList then ((spec_trimBlanks.f k (a0.extract ((a1.size : Int) : Int).toNat a0.size)).bind fun t102 => (some (t102, true))) else (some ((⟨#[]⟩ : ByteArray), false))) = some (r1, r2) := H
        have A6 := Aside0.mk A60
        clear A60
        by_cases c7 : t101.toList = a1.toList
        · rw [if_pos c7] at H
          have c7b0 : (t101.toList == a1.toList) = true := beq_iff_eq.mpr c7
          have c7b1 : (t101.toList != a1.toList) = false := bne_eq_false_iff_eq.mpr c7
          clear c7
          have c8b0 := eq_true (of_decide_eq_true (by first | (with_reducible assumption) | assumption) : 0 ≤ (a1.size : Int))
          have c9b0 := eq_true (of_decide_eq_true (by first | (with_reducible assumption) | assumption) : (a1.size : Int) ≤ (a0.size : Int))
          replace H := Option.bind_eq_some_iff.mp H
          obtain ⟨t102, A100, H⟩ := H
          replace H : (some (t102, true)) = some (r1, r2) := H
          have A10 := Aside0.mk A100
          clear A100
          simp only [Option.some.injEq, Prod.mk.injEq] at H
          obtain ⟨rfl, rfl⟩ := H
          go_enter Tryz.func6, Tryz.ntmps6
          go_wp2_with (first | (go_at_call 11; (refine (Own.spec_Upper.calls (a0.extract 0 a1.size) t101 _ A6.out).mono ?_); rintro e w11 ⟨rfl, hb⟩; have n0_ := Aside0.mk (below_step (by repeat (first | (with_reducible first | exact HB.out | apply below_alloc | apply pw_below_drewN | apply below_drew1) | exact HB.out)) hb); clear HB; have HB := n0_; clear n0_; (try clear hb); (try clear hb2); (try clear hk); (try clear hi)) | ((with_reducible refine gate_callee (f := 12) rfl ?_); refine goesL_ (some 24) rfl rfl Tryz.func12 (by kernel_rfl) rfl #[.string (a0.extract ((a1.size : Int) : Int).toNat a0.size)] rfl (by (try simp only [List.map_toArray, List.map_cons, List.map_nil]); first | done | rfl | (simp only [List.length_drop, List.length_take]; rfl)) ?_; (with_reducible refine (spec_trimBlanks.calls k (a0.extract ((a1.size : Int) : Int).toNat a0.size) t102 _ A10.out).mono ?_); rintro e w' ⟨rfl, ⟨nd, rfl⟩⟩; refine ⟨_, rfl, ?_⟩))
          go_ret2
          exact ⟨by first | rfl | (simp [errW_none, errW_some] <;> rfl) | (simp [*, errW_none, errW_some] <;> rfl), by repeat (first | (with_reducible first | exact HB.out | apply below_alloc | apply pw_below_drewN | apply below_drew1) | exact HB.out)⟩
        · rw [if_neg c7] at H
          have c7b0 : (t101.toList == a1.toList) = false := beq_eq_false_iff_ne.mpr c7
          have c7b1 : (t101.toList != a1.toList) = true := bne_iff_ne.mpr c7
          simp only [Option.some.injEq, Prod.mk.injEq] at H
          obtain ⟨rfl, rfl⟩ := H
          go_enter Tryz.func6, Tryz.ntmps6
          go_wp2_with (first | (go_at_call 11; (refine (Own.spec_Upper.calls (a0.extract 0 a1.size) t101 _ A6.out).mono ?_); rintro e w12 ⟨rfl, hb⟩; have n0_ := Aside0.mk (below_step (by repeat (first | (with_reducible first | exact HB.out | apply below_alloc | apply pw_below_drewN | apply below_drew1) | exact HB.out)) hb); clear HB; have HB := n0_; clear n0_; (try clear hb); (try clear hb2); (try clear hk); (try clear hi)))
          go_ret2
          exact ⟨by first | rfl | (simp [errW_none, errW_some] <;> rfl) | (simp [*, errW_none, errW_some] <;> rfl), by repeat (first | (with_reducible first | exact HB.out | apply below_alloc | apply pw_below_drewN | apply below_drew1) | exact HB.out)⟩
      · rw [if_neg c5] at H
        exact absurd H (by simp)
    · rw [if_neg c4] at H
      exact absurd H (by simp)

end Go.Proofs.YtldiamldbpobgaaGreatDoor.PBehind
