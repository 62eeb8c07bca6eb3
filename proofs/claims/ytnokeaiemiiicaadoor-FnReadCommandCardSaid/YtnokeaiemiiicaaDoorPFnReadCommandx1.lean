-- Printed for this claim by a copy of the kit's print that takes hand-proved callees (wip/patch_print.py).
import Derived.Test.YtnokeaiemiiicaaDoorPFnReadCommandx0
namespace Go.Proofs.YtnokeaiemiiicaaDoor.PFnReadCommand
open Go.RowKit Go.Proofs.YtnokeaiemiiicaaDoorW.PrintWords Go.Proofs.YtnokeaiemiiicaaDoorW.PrintLast Go.Proofs.YtnokeaiemiiicaaDoorW.PrintMore
attribute [local go_sem] max2_int min2_int max_two min_two max_three min_three max_four min_four   -- for this text's walks alone
set_option linter.unusedVariables false
set_option linter.unusedSimpArgs false

/-! ### spec_Printable16: function 26 -/
def spec_Printable16.l0 : Nat → ByteArray → Int → Option (Bool)
  | 0, _, _ => none
  | k + 1, x0, x3 => if x3 < (x0.size : Int) then (if 0 ≤ x3 then (if (bt x0 x3) < 32 then (some false) else (if (bt x0 x3) > 126 then (some false) else (spec_Printable16.l0 k x0 (wrap64 (x3 + 1))))) else (none)) else (some true)
def spec_Printable16.f (k : Nat) (a0 : ByteArray) : Option (Bool) := spec_Printable16.l0 k a0 0
theorem spec_Printable16.mono_l : ∀ k, (∀ y0 y1, LeO (spec_Printable16.l0 k y0 y1) (spec_Printable16.l0 (k + 1) y0 y1))
  | 0 => fun _ _ r h => by simp [spec_Printable16.l0] at h
  | k + 1 => by
    have ih0 := spec_Printable16.mono_l k
    · intro y0 y1
      unfold spec_Printable16.l0
      repeat' first
      | (with_reducible exact ih0 _ _)
      | (with_reducible exact LeO.refl _)
      | (with_reducible exact LeO.none _)
      | (with_reducible refine LeO.ite ?_ ?_)
      | (with_reducible refine LeO.bind ?_ (fun _ => ?_))
      | exact ih0 _ _
      | exact LeO.none _
      | refine LeO.ite ?_ ?_
      | refine LeO.bind ?_ (fun _ => ?_)
theorem spec_Printable16.mono : ∀ a0 k, LeO (spec_Printable16.f k a0) (spec_Printable16.f (k + 1) a0) := by
  intro a0 k
  have ih0 := spec_Printable16.mono_l k
  unfold spec_Printable16.f
  repeat' first
      | (with_reducible exact ih0 _ _)
      | (with_reducible exact LeO.refl _)
      | (with_reducible exact LeO.none _)
      | (with_reducible refine LeO.ite ?_ ?_)
      | (with_reducible refine LeO.bind ?_ (fun _ => ?_))
      | exact ih0 _ _
      | exact LeO.none _
      | refine LeO.ite ?_ ?_
      | refine LeO.bind ?_ (fun _ => ?_)
set_option maxHeartbeats 8000000 in
set_option maxRecDepth 100000 in
theorem spec_Printable16.calls (k : Nat) (a0 : ByteArray) (r : Bool) (w : World) (h : spec_Printable16.f k a0 = some r) :
    Calls Tryd.prog 26 #[.string a0] w fun e w' => e = .returned (.bool r) ∧ Drawn0 w w' := by
  have H : (spec_Printable16.l0 k a0 0) = some r := h
  clear h
  have H' := Aside0.mk H
  clear H
  go_enter Tryd.func26, Tryd.ntmps26
  go_wp2
  go_loopg [3] k (fun kq v3 w' => ∃ (x3_1 : Int), v3 = .int .i64 x3_1 ∧ Aside0 (spec_Printable16.l0 kq a0 x3_1 = some r) ∧ Aside0 (kq ≤ k) ∧ Drawn0 w w')
  case atStart => exact ⟨(0), (by first | rfl | (simp; done) | (simp [*]; done)), H', ⟨Nat.le_refl _⟩, by repeat (first | exact Drawn0.refl _ | apply Drawn0.step)⟩
  case round =>
    clear H'
    obtain ⟨x3_1, rfl, HA, HK1, ⟨m1, rfl⟩⟩ := hrel
    cases gk with
    | zero => exact absurd HA.out (by simp [spec_Printable16.l0])
    | succ k1 =>
      have H := HA.out
      clear HA
      simp only [spec_Printable16.l0] at H
      by_cases c2 : x3_1 < (a0.size : Int)
      · rw [if_pos c2] at H
        have c2b0 : decide (x3_1 < (a0.size : Int)) = true := decide_eq_true c2
        clear c2
        by_cases c3 : 0 ≤ x3_1
        · rw [if_pos c3] at H
          have c3b0 : decide (0 ≤ x3_1) = true := decide_eq_true c3
          clear c3
          by_cases c5 : (bt a0 x3_1) < 32
          · rw [if_pos c5] at H
            have c5b0 : decide ((bt a0 x3_1) < 32) = true := decide_eq_true c5
            clear c5
            obtain rfl := Option.some.inj H
            have p4 : 0 ≤ (x3_1 : Int) := of_decide_eq_true (by first | (with_reducible assumption) | assumption)
            have q4 : x3_1 < (a0.size : Int) := of_decide_eq_true (by first | (with_reducible assumption) | assumption)
            have hx4 := bt_at a0 x3_1
            replace p4 := eq_true p4
            replace q4 := eq_true q4
            go_wp2
            go_ret
            exact ⟨by first | rfl | (simp; done) | (simp [*]; done), by repeat (first | exact Drawn0.refl _ | apply Drawn0.step)⟩
          · rw [if_neg c5] at H
            have c5b0 : decide ((bt a0 x3_1) < 32) = false := decide_eq_false c5
            clear c5
            by_cases c7 : (bt a0 x3_1) > 126
            · rw [if_pos c7] at H
              have c7b0 : decide (126 < (bt a0 x3_1)) = true := decide_eq_true c7
              clear c7
              obtain rfl := Option.some.inj H
              have p4 : 0 ≤ (x3_1 : Int) := of_decide_eq_true (by first | (with_reducible assumption) | assumption)
              have q4 : x3_1 < (a0.size : Int) := of_decide_eq_true (by first | (with_reducible assumption) | assumption)
              have hx4 := bt_at a0 x3_1
              replace p4 := eq_true p4
              replace q4 := eq_true q4
              have p6 : 0 ≤ (x3_1 : Int) := of_decide_eq_true (by first | (with_reducible assumption) | assumption)
              have q6 : x3_1 < (a0.size : Int) := of_decide_eq_true (by first | (with_reducible assumption) | assumption)
              have hx6 := bt_at a0 x3_1
              replace p6 := eq_true p6
              replace q6 := eq_true q6
              go_wp2
              go_ret
              exact ⟨by first | rfl | (simp; done) | (simp [*]; done), by repeat (first | exact Drawn0.refl _ | apply Drawn0.step)⟩
            · rw [if_neg c7] at H
              have c7b0 : decide (126 < (bt a0 x3_1)) = false := decide_eq_false c7
              clear c7
              have H' := Aside0.mk H
              clear H
              have p4 : 0 ≤ (x3_1 : Int) := of_decide_eq_true (by first | (with_reducible assumption) | assumption)
              have q4 : x3_1 < (a0.size : Int) := of_decide_eq_true (by first | (with_reducible assumption) | assumption)
              have hx4 := bt_at a0 x3_1
              replace p4 := eq_true p4
              replace q4 := eq_true q4
              have p6 : 0 ≤ (x3_1 : Int) := of_decide_eq_true (by first | (with_reducible assumption) | assumption)
              have q6 : x3_1 < (a0.size : Int) := of_decide_eq_true (by first | (with_reducible assumption) | assumption)
              have hx6 := bt_at a0 x3_1
              replace p6 := eq_true p6
              replace q6 := eq_true q6
              go_wp2
              go_roundg k1
              case measure => have := HK1.out; omega
              case rel => exact ⟨(wrap64 (x3_1 + 1)), (by first | rfl | (simp; done) | (simp [*]; done)), H', ⟨by have := HK1.out; omega⟩, by repeat (first | exact Drawn0.refl _ | apply Drawn0.step)⟩
        · rw [if_neg c3] at H
          exact absurd H (by simp)
      · rw [if_neg c2] at H
        have c2b0 : decide (x3_1 < (a0.size : Int)) = false := decide_eq_false c2
        clear c2
        obtain rfl := Option.some.inj H
        go_wp2
        go_ret
        exact ⟨by first | rfl | (simp; done) | (simp [*]; done), by repeat (first | exact Drawn0.refl _ | apply Drawn0.step)⟩

/-! ### spec_trimBlanks: function 48 -/
mutual
def spec_trimBlanks.j1 : Nat → ByteArray → Option (ByteArray)
  | 0, _ => none
  | k + 1, x0 => spec_trimBlanks.l1 k x0
def spec_trimBlanks.l1 : Nat → ByteArray → Option (ByteArray)
  | 0, _ => none
  | k + 1, x0 => if (x0.size : Int) > 0 then (if 0 ≤ (wrap64 ((x0.size : Int) - 1)) then (if (wrap64 ((x0.size : Int) - 1)) < (x0.size : Int) then (if (bt x0 (wrap64 ((x0.size : Int) - 1))) = 32 then (if (wrap64 ((x0.size : Int) - 1)) ≤ (x0.size : Int) then (spec_trimBlanks.l1 k (x0.extract 0 ((wrap64 ((x0.size : Int) - 1)) : Int).toNat)) else (none)) else (some x0)) else (none)) else (none)) else (some x0)
def spec_trimBlanks.l0 : Nat → ByteArray → Option (ByteArray)
  | 0, _ => none
  | k + 1, x0 => if (x0.size : Int) > 0 then (if 0 < (x0.size : Int) then (if (bt x0 0) = 32 then (if 1 ≤ (x0.size : Int) then (spec_trimBlanks.l0 k (x0.extract 1 x0.size)) else (none)) else (spec_trimBlanks.j1 k x0)) else (none)) else (spec_trimBlanks.j1 k x0)
end
def spec_trimBlanks.f (k : Nat) (a0 : ByteArray) : Option (ByteArray) := spec_trimBlanks.l0 k a0
theorem spec_trimBlanks.mono_l : ∀ k, (∀ y0, LeO (spec_trimBlanks.j1 k y0) (spec_trimBlanks.j1 (k + 1) y0)) ∧ (∀ y0, LeO (spec_trimBlanks.l1 k y0) (spec_trimBlanks.l1 (k + 1) y0)) ∧ (∀ y0, LeO (spec_trimBlanks.l0 k y0) (spec_trimBlanks.l0 (k + 1) y0))
  | 0 => ⟨fun _ r h => by simp [spec_trimBlanks.j1] at h, fun _ r h => by simp [spec_trimBlanks.l1] at h, fun _ r h => by simp [spec_trimBlanks.l0] at h⟩
  | k + 1 => by
    obtain ⟨ih0, ih1, ih2⟩ := spec_trimBlanks.mono_l k
    refine ⟨?_, ?_, ?_⟩
    · intro y0
      unfold spec_trimBlanks.j1
      repeat' first
      | (with_reducible exact ih0 _)
      | (with_reducible exact ih1 _)
      | (with_reducible exact ih2 _)
      | (with_reducible exact LeO.refl _)
      | (with_reducible exact LeO.none _)
      | (with_reducible refine LeO.ite ?_ ?_)
      | (with_reducible refine LeO.bind ?_ (fun _ => ?_))
      | exact ih0 _
      | exact ih1 _
      | exact ih2 _
      | exact LeO.none _
      | refine LeO.ite ?_ ?_
      | refine LeO.bind ?_ (fun _ => ?_)
    · intro y0
      unfold spec_trimBlanks.l1
      repeat' first
      | (with_reducible exact ih0 _)
      | (with_reducible exact ih1 _)
      | (with_reducible exact ih2 _)
      | (with_reducible exact LeO.refl _)
      | (with_reducible exact LeO.none _)
      | (with_reducible refine LeO.ite ?_ ?_)
      | (with_reducible refine LeO.bind ?_ (fun _ => ?_))
      | exact ih0 _
      | exact ih1 _
      | exact ih2 _
      | exact LeO.none _
      | refine LeO.ite ?_ ?_
      | refine LeO.bind ?_ (fun _ => ?_)
    · intro y0
      unfold spec_trimBlanks.l0
      repeat' first
      | (with_reducible exact ih0 _)
      | (with_reducible exact ih1 _)
      | (with_reducible exact ih2 _)
      | (with_reducible exact LeO.refl _)
      | (with_reducible exact LeO.none _)
      | (with_reducible refine LeO.ite ?_ ?_)
      | (with_reducible refine LeO.bind ?_ (fun _ => ?_))
      | exact ih0 _
      | exact ih1 _
      | exact ih2 _
      | exact LeO.none _
      | refine LeO.ite ?_ ?_
      | refine LeO.bind ?_ (fun _ => ?_)
theorem spec_trimBlanks.mono : ∀ a0 k, LeO (spec_trimBlanks.f k a0) (spec_trimBlanks.f (k + 1) a0) := by
  intro a0 k
  obtain ⟨ih0, ih1, ih2⟩ := spec_trimBlanks.mono_l k
  unfold spec_trimBlanks.f
  repeat' first
      | (with_reducible exact ih0 _)
      | (with_reducible exact ih1 _)
      | (with_reducible exact ih2 _)
      | (with_reducible exact LeO.refl _)
      | (with_reducible exact LeO.none _)
      | (with_reducible refine LeO.ite ?_ ?_)
      | (with_reducible refine LeO.bind ?_ (fun _ => ?_))
      | exact ih0 _
      | exact ih1 _
      | exact ih2 _
      | exact LeO.none _
      | refine LeO.ite ?_ ?_
      | refine LeO.bind ?_ (fun _ => ?_)
set_option maxHeartbeats 8000000 in
set_option maxRecDepth 100000 in
theorem spec_trimBlanks.calls (k : Nat) (a0 : ByteArray) (r : ByteArray) (w : World) (h : spec_trimBlanks.f k a0 = some r) :
    Calls Tryd.prog 48 #[.string a0] w fun e w' => e = .returned (.string r) ∧ Drawn0 w w' := by
  have H : (spec_trimBlanks.l0 k a0) = some r := h
  clear h
  have HC2 := Aside0.mk H
  clear H
  go_enter Tryd.func48, Tryd.ntmps48
  go_upto_block 0 with (fail)
  go_cut [0] (fun v0 wc => ∃ (kq : Nat) (x0_1 : ByteArray), v0 = .string x0_1 ∧ Aside0 (spec_trimBlanks.j1 kq x0_1 = some r) ∧ Aside0 (kq ≤ k) ∧ Drawn0 w wc)
  case first =>
    have H := HC2.out
    clear HC2
    have H' := Aside0.mk H
    clear H
    go_wp2
    go_loopg [0] k (fun kq v0 w' => ∃ (x0_1 : ByteArray), v0 = .string x0_1 ∧ Aside0 (spec_trimBlanks.l0 kq x0_1 = some r) ∧ Aside0 (kq ≤ k) ∧ Drawn0 w w')
    case atStart => exact ⟨(a0), (by first | rfl | (simp; done) | (simp [*]; done)), H', ⟨Nat.le_refl _⟩, by repeat (first | exact Drawn0.refl _ | apply Drawn0.step)⟩
    case round =>
      clear H'
      try clear p2
      obtain ⟨x0_1, rfl, HA, HK1, ⟨m1, rfl⟩⟩ := hrel
      cases gk with
      | zero => exact absurd HA.out (by simp [spec_trimBlanks.l0])
      | succ k1 =>
        have H := HA.out
        clear HA
        simp only [spec_trimBlanks.l0] at H
        by_cases c3 : (x0_1.size : Int) > 0
        · rw [if_pos c3] at H
          have c3b0 : decide (0 < (x0_1.size : Int)) = true := decide_eq_true c3
          have c3b1 : decide (0 < x0_1.size) = true := decide_eq_true (by omega)
          clear c3
          (first | rw [c3b0] | (simp only [i64_w, i32_w]; rw [c3b0]) | skip)
          by_cases c4 : 0 < (x0_1.size : Int)
          · rw [if_pos c4] at H
            have c4b0 : decide (0 < (x0_1.size : Int)) = true := decide_eq_true c4
            have c4b1 : decide (0 < x0_1.size) = true := decide_eq_true (by omega)
            clear c4
            by_cases c6 : (bt x0_1 0) = 32
            · rw [if_pos c6] at H
              have c6b0 : ((bt x0_1 0) == 32) = true := beq_iff_eq.mpr c6
              have c6b1 : ((bt x0_1 0) != 32) = false := bne_eq_false_iff_eq.mpr c6
              clear c6
              by_cases c7 : 1 ≤ (x0_1.size : Int)
              · rw [if_pos c7] at H
                have c7b0 := eq_true c7
                have c7b1 : decide (1 ≤ (x0_1.size : Int)) = true := decide_eq_true c7
                clear c7
                have H' := Aside0.mk H
                clear H
                have p5 : 0 ≤ (0 : Int) := (by omega)
                have q5 : 0 < x0_1.size := (by have : (0 : Int) < (x0_1.size : Int) := of_decide_eq_true (by first | (with_reducible assumption) | assumption); omega)
                have hx5 : ∀ h : 0 < x0_1.size, ((x0_1[0]'h).toNat : Int) = bt x0_1 0 := bt_at x0_1 0
                clear p5
                have qi5 : (0 < (x0_1.size : Int)) = True := eq_true (of_decide_eq_true (by first | (with_reducible assumption) | assumption))
                replace q5 := eq_true q5
                go_wp2
                go_roundg k1
                case measure => have := HK1.out; omega
                case rel => exact ⟨(x0_1.extract 1 x0_1.size), (by first | rfl | (simp; done) | (simp [*]; done)), H', ⟨by have := HK1.out; omega⟩, by repeat (first | exact Drawn0.refl _ | apply Drawn0.step)⟩
              · rw [if_neg c7] at H
                exact absurd H (by simp)
            · rw [if_neg c6] at H
              have c6b0 : ((bt x0_1 0) == 32) = false := beq_eq_false_iff_ne.mpr c6
              have c6b1 : ((bt x0_1 0) != 32) = true := bne_iff_ne.mpr c6
              have H' := Aside0.mk H
              clear H
              have p5 : 0 ≤ (0 : Int) := (by omega)
              have q5 : 0 < x0_1.size := (by have : (0 : Int) < (x0_1.size : Int) := of_decide_eq_true (by first | (with_reducible assumption) | assumption); omega)
              have hx5 : ∀ h : 0 < x0_1.size, ((x0_1[0]'h).toNat : Int) = bt x0_1 0 := bt_at x0_1 0
              clear p5
              have qi5 : (0 < (x0_1.size : Int)) = True := eq_true (of_decide_eq_true (by first | (with_reducible assumption) | assumption))
              replace q5 := eq_true q5
              go_wp2
              go_meet
              case rel => exact ⟨_, (x0_1), (by first | rfl | (simp; done) | (simp [*]; done)), H', ⟨by have := HK1.out; first | omega | exact Nat.le_refl _⟩, by repeat (first | exact Drawn0.refl _ | apply Drawn0.step)⟩
          · rw [if_neg c4] at H
            exact absurd H (by simp)
        · rw [if_neg c3] at H
          have c3b0 : decide (0 < (x0_1.size : Int)) = false := decide_eq_false c3
          have c3b1 : decide (0 < x0_1.size) = false := decide_eq_false (by omega)
          clear c3
          (first | rw [c3b0] | (simp only [i64_w, i32_w]; rw [c3b0]) | skip)
          have H' := Aside0.mk H
          clear H
          go_wp2
          go_meet
          case rel => exact ⟨_, (x0_1), (by first | rfl | (simp; done) | (simp [*]; done)), H', ⟨by have := HK1.out; first | omega | exact Nat.le_refl _⟩, by repeat (first | exact Drawn0.refl _ | apply Drawn0.step)⟩
  case rest =>
    clear HC2
    try clear p2
    try clear c3
    try clear c3b0
    try clear c3b1
    try clear c4
    try clear c4b0
    try clear c4b1
    try clear p5
    try clear q5
    try clear hx5
    try clear qi5
    try clear c6
    try clear c6b0
    try clear c6b1
    try clear c7
    try clear c7b0
    try clear c7b1
    try clear p2
    try clear p5
    try clear q5
    obtain ⟨kq, x0_1, rfl, HA, HJ1, ⟨mc1, rfl⟩⟩ := hcut
    cases kq with
    | zero => exact absurd HA.out (by simp [spec_trimBlanks.j1])
    | succ kj1 =>
      have H := HA.out
      clear HA
      simp only [spec_trimBlanks.j1] at H
      have H' := Aside0.mk H
      clear H
      go_wp2
      go_loopg [0] kj1 (fun kq v0 w' => ∃ (x0_2 : ByteArray), v0 = .string x0_2 ∧ Aside0 (spec_trimBlanks.l1 kq x0_2 = some r) ∧ Aside0 (kq ≤ kj1) ∧ Drawn0 w w')
      case atStart => exact ⟨(x0_1), (by first | rfl | (simp; done) | (simp [*]; done)), H', ⟨Nat.le_refl _⟩, by repeat (first | exact Drawn0.refl _ | apply Drawn0.step)⟩
      case round =>
        clear H'
        try clear c1
        try clear p2
        try clear c3
        try clear c3b0
        try clear c3b1
        try clear c4
        try clear c4b0
        try clear c4b1
        try clear p5
        try clear q5
        try clear hx5
        try clear qi5
        try clear c6
        try clear c6b0
        try clear c6b1
        try clear c7
        try clear c7b0
        try clear c7b1
        try clear p2
        try clear p5
        try clear q5
        obtain ⟨x0_2, rfl, HA, HK2, ⟨m2, rfl⟩⟩ := hrel
        cases gk with
        | zero => exact absurd HA.out (by simp [spec_trimBlanks.l1])
        | succ k2 =>
          have H := HA.out
          clear HA
          simp only [spec_trimBlanks.l1] at H
          by_cases c8 : (x0_2.size : Int) > 0
          · rw [if_pos c8] at H
            have c8b0 : decide (0 < (x0_2.size : Int)) = true := decide_eq_true c8
            have c8b1 : decide (0 < x0_2.size) = true := decide_eq_true (by omega)
            clear c8
            obtain ⟨ji9, hji9⟩ : ∃ j_ : Int, (wrap64 ((x0_2.size : Int) - 1)) = j_ := ⟨_, rfl⟩
            replace H : (if 0 ≤ (ji9) then (if (ji9) < (x0_2.size : Int) then (if (bt x0_2 (ji9)) = 32 then (if (ji9) ≤ (x0_2.size : Int) then (spec_trimBlanks.l1 k2 (x0_2.extract 0 ((ji9) : Int).toNat)) else (none)) else (some x0_2)) else (none)) else (none)) = some r := by first | (rw [hji9] at H; exact H) | (simp only [hji9] at H ⊢; exact H)
            have hji9w : (IntKind.i64.wrap ((x0_2.size : Int) - 1)) = ji9 := (i64_w _).trans hji9
            by_cases c10 : 0 ≤ (ji9)
            · rw [if_pos c10] at H
              have c10b0 : decide (0 ≤ (ji9)) = true := decide_eq_true c10
              clear c10
              by_cases c11 : (ji9) < (x0_2.size : Int)
              · rw [if_pos c11] at H
                have c11b0 : decide ((ji9) < (x0_2.size : Int)) = true := decide_eq_true c11
                clear c11
                by_cases c13 : (bt x0_2 (ji9)) = 32
                · rw [if_pos c13] at H
                  have c13b0 : ((bt x0_2 (ji9)) == 32) = true := beq_iff_eq.mpr c13
                  have c13b1 : ((bt x0_2 (ji9)) != 32) = false := bne_eq_false_iff_eq.mpr c13
                  clear c13
                  have c14b0 := eq_true (of_decide_eq_true (by first | (with_reducible assumption) | assumption) : 0 ≤ (ji9))
                  by_cases c15 : (ji9) ≤ (x0_2.size : Int)
                  · rw [if_pos c15] at H
                    have c15b0 := eq_true c15
                    have c15b1 : decide ((ji9) ≤ (x0_2.size : Int)) = true := decide_eq_true c15
                    clear c15
                    have H' := Aside0.mk H
                    clear H
                    have p12 : 0 ≤ ((ji9) : Int) := of_decide_eq_true (by first | (with_reducible assumption) | assumption)
                    have q12 : (ji9) < (x0_2.size : Int) := of_decide_eq_true (by first | (with_reducible assumption) | assumption)
                    have hx12 := bt_at x0_2 (ji9)
                    replace p12 := eq_true p12
                    replace q12 := eq_true q12
                    go_wp2
                    go_roundg k2
                    case measure => have := HJ1.out; have := HK2.out; omega
                    case rel => exact ⟨(x0_2.extract 0 ((ji9) : Int).toNat), (by first | rfl | (simp; done) | (simp only [← hji9] <;> (first | rfl | simp)) | (simp [*]; done)), (by first | exact H' | (rw [hji9]; exact H') | (simp only [hji9]; exact H')), ⟨by have := HJ1.out; have := HK2.out; omega⟩, by repeat (first | exact Drawn0.refl _ | apply Drawn0.step)⟩
                  · rw [if_neg c15] at H
                    exact absurd H (by simp)
                · rw [if_neg c13] at H
                  have c13b0 : ((bt x0_2 (ji9)) == 32) = false := beq_eq_false_iff_ne.mpr c13
                  have c13b1 : ((bt x0_2 (ji9)) != 32) = true := bne_iff_ne.mpr c13
                  obtain rfl := Option.some.inj H
                  have p12 : 0 ≤ ((ji9) : Int) := of_decide_eq_true (by first | (with_reducible assumption) | assumption)
                  have q12 : (ji9) < (x0_2.size : Int) := of_decide_eq_true (by first | (with_reducible assumption) | assumption)
                  have hx12 := bt_at x0_2 (ji9)
                  replace p12 := eq_true p12
                  replace q12 := eq_true q12
                  go_wp2
                  go_ret
                  exact ⟨by first | rfl | (simp; done) | (simp only [← hji9] <;> (first | rfl | simp)) | (simp [*]; done), by repeat (first | exact Drawn0.refl _ | apply Drawn0.step)⟩
              · rw [if_neg c11] at H
                exact absurd H (by simp)
            · rw [if_neg c10] at H
              exact absurd H (by simp)
          · rw [if_neg c8] at H
            have c8b0 : decide (0 < (x0_2.size : Int)) = false := decide_eq_false c8
            have c8b1 : decide (0 < x0_2.size) = false := decide_eq_false (by omega)
            clear c8
            obtain rfl := Option.some.inj H
            go_wp2
            go_ret
            exact ⟨by first | rfl | (simp; done) | (simp [*]; done), by repeat (first | exact Drawn0.refl _ | apply Drawn0.step)⟩

/-! ### spec_SmtpCommand: function 27 -/
mutual
def spec_SmtpCommand.j0 : Nat → ByteArray → Bool → Option (ByteArray × ByteArray × Int × Bool)
  | 0, _, _ => none
  | k + 1, x0, x6 => if x6 = true then (some ((⟨#[83, 84, 65, 82, 84, 84, 76, 83]⟩ : ByteArray), (⟨#[]⟩ : ByteArray), 0, true)) else (if x0.toList = ([] : List UInt8) then (some ((⟨#[]⟩ : ByteArray), (⟨#[]⟩ : ByteArray), 500, false)) else (if (x0.size : Int) < 4 then (spec_SmtpCommand.j1 k x0 true) else (if (x0.size : Int) = 5 then (spec_SmtpCommand.j1 k x0 true) else (if (x0.size : Int) > 5 then (if 4 < (x0.size : Int) then (spec_SmtpCommand.j1 k x0 ((bt x0 4) != 32)) else (none)) else (spec_SmtpCommand.j1 k x0 false)))))
def spec_SmtpCommand.j1 : Nat → ByteArray → Bool → Option (ByteArray × ByteArray × Int × Bool)
  | 0, _, _ => none
  | k + 1, x0, x19 => if x19 = true then (some ((⟨#[]⟩ : ByteArray), (⟨#[]⟩ : ByteArray), 501, false)) else (if (x0.size : Int) = 4 then ((Own.spec_Upper.f x0).bind fun t102 => (some (t102, (⟨#[]⟩ : ByteArray), 0, true))) else (if 0 ≤ 4 then (if 4 ≤ (x0.size : Int) then ((Own.spec_Upper.f (x0.extract 0 4)).bind fun t103 => (if 5 ≤ (x0.size : Int) then ((spec_trimBlanks.f k (x0.extract 5 x0.size)).bind fun t104 => (some (t103, t104, 0, true))) else (none))) else (none)) else (none)))
end
def spec_SmtpCommand.f (k : Nat) (a0 : ByteArray) : Option (ByteArray × ByteArray × Int × Bool) := if (a0.size : Int) ≥ 8 then (if 0 ≤ 8 then (if 8 ≤ (a0.size : Int) then ((Own.spec_Upper.f (a0.extract 0 8)).bind fun t101 => (spec_SmtpCommand.j0 k a0 (t101.toList == ([83, 84, 65, 82, 84, 84, 76, 83] : List UInt8)))) else (none)) else (none)) else (spec_SmtpCommand.j0 k a0 false)
theorem spec_SmtpCommand.mono_l : ∀ k, (∀ y0 y1, LeO (spec_SmtpCommand.j0 k y0 y1) (spec_SmtpCommand.j0 (k + 1) y0 y1)) ∧ (∀ y0 y1, LeO (spec_SmtpCommand.j1 k y0 y1) (spec_SmtpCommand.j1 (k + 1) y0 y1))
  | 0 => ⟨fun _ _ r h => by simp [spec_SmtpCommand.j0] at h, fun _ _ r h => by simp [spec_SmtpCommand.j1] at h⟩
  | k + 1 => by
    obtain ⟨ih0, ih1⟩ := spec_SmtpCommand.mono_l k
    refine ⟨?_, ?_⟩
    · intro y0 y1
      unfold spec_SmtpCommand.j0
      repeat' first
      | (with_reducible exact ih0 _ _)
      | (with_reducible exact ih1 _ _)
      | (with_reducible exact spec_trimBlanks.mono _ _)
      | (with_reducible exact LeO.refl _)
      | (with_reducible exact LeO.none _)
      | (with_reducible refine LeO.ite ?_ ?_)
      | (with_reducible refine LeO.bind ?_ (fun _ => ?_))
      | exact ih0 _ _
      | exact ih1 _ _
      | exact spec_trimBlanks.mono _ _
      | exact LeO.none _
      | refine LeO.ite ?_ ?_
      | refine LeO.bind ?_ (fun _ => ?_)
    · intro y0 y1
      unfold spec_SmtpCommand.j1
      repeat' first
      | (with_reducible exact ih0 _ _)
      | (with_reducible exact ih1 _ _)
      | (with_reducible exact spec_trimBlanks.mono _ _)
      | (with_reducible exact LeO.refl _)
      | (with_reducible exact LeO.none _)
      | (with_reducible refine LeO.ite ?_ ?_)
      | (with_reducible refine LeO.bind ?_ (fun _ => ?_))
      | exact ih0 _ _
      | exact ih1 _ _
      | exact spec_trimBlanks.mono _ _
      | exact LeO.none _
      | refine LeO.ite ?_ ?_
      | refine LeO.bind ?_ (fun _ => ?_)
theorem spec_SmtpCommand.mono : ∀ a0 k, LeO (spec_SmtpCommand.f k a0) (spec_SmtpCommand.f (k + 1) a0) := by
  intro a0 k
  obtain ⟨ih0, ih1⟩ := spec_SmtpCommand.mono_l k
  unfold spec_SmtpCommand.f
  repeat' first
      | (with_reducible exact ih0 _ _)
      | (with_reducible exact ih1 _ _)
      | (with_reducible exact spec_trimBlanks.mono _ _)
      | (with_reducible exact LeO.refl _)
      | (with_reducible exact LeO.none _)
      | (with_reducible refine LeO.ite ?_ ?_)
      | (with_reducible refine LeO.bind ?_ (fun _ => ?_))
      | exact ih0 _ _
      | exact ih1 _ _
      | exact spec_trimBlanks.mono _ _
      | exact LeO.none _
      | refine LeO.ite ?_ ?_
      | refine LeO.bind ?_ (fun _ => ?_)
def spec_SmtpCommand.T9 : Bool × List (List Nat × List Nat) := (true, [([], []), ([0], [0]), ([1], [1]), ([], []), ([3], [3]), ([4, 2], [4]), ([2, 5, 0, 1, 2], [2]), ([5, 6, 0, 1, 2, 3, 4, 5, 6], [5]), ([7, 0, 1, 2, 3, 4, 5, 6, 7], []), ([8, 0, 1, 2, 3, 4, 5, 6, 7, 8], [])])
def spec_SmtpCommand.B9 : List Nat := [0, 1, 3, 0, 8, 31, 63, 127, 255, 511]
theorem spec_SmtpCommand.tab9 : rtab .any (opsOf Tryd.f27 9) = spec_SmtpCommand.T9 := by kernel_rfl
theorem spec_SmtpCommand.bits9 : waitsOk spec_SmtpCommand.T9.2 spec_SmtpCommand.B9 = true := by kernel_rfl
set_option maxHeartbeats 8000000 in
set_option maxRecDepth 100000 in
theorem spec_SmtpCommand.calls (k : Nat) (a0 : ByteArray) (r1 : ByteArray) (r2 : ByteArray) (r3 : Int) (r4 : Bool) (w : World) (h : spec_SmtpCommand.f k a0 = some (r1, r2, r3, r4)) :
    Calls Tryd.prog 27 #[.string a0] w fun e w' => e = .returned (.tuple #[.string r1, .string r2, .int .i64 r3, .bool r4]) ∧ Below w.heap.size w w' := by
  have HB := Aside0.mk (Below.refl w.heap.size w)
  have H : (if (a0.size : Int) ≥ 8 then (if 0 ≤ 8 then (if 8 ≤ (a0.size : Int) then ((Own.spec_Upper.f (a0.extract 0 8)).bind fun t101 => (spec_SmtpCommand.j0 k a0 (t101.toList == ([83, 84, 65, 82, 84, 84, 76, 83] : List UInt8)))) else (none)) else (none)) else (spec_SmtpCommand.j0 k a0 false)) = some (r1, r2, r3, r4) := h
  clear h
  have HC2 := Aside0.mk H
  clear H
  go_enter Tryd.func27, Tryd.ntmps27
  go_upto_region 1 with (fail)
  go_cut [6] (fun v6 wc => ∃ (kq : Nat) (x6_1 : Bool), v6 = .bool x6_1 ∧ Aside0 (spec_SmtpCommand.j0 kq a0 x6_1 = some (r1, r2, r3, r4)) ∧ Aside0 (kq ≤ k) ∧ Aside0 (Below w.heap.size w wc))
  case first =>
    have H := HC2.out
    clear HC2
    by_cases c3 : (a0.size : Int) ≥ 8
    · rw [if_pos c3] at H
      have c3b0 : decide (8 ≤ (a0.size : Int)) = true := decide_eq_true c3
      have c3b1 : decide (8 ≤ a0.size) = true := decide_eq_true (by omega)
      clear c3
      (first | rw [c3b0] | (simp only [i64_w, i32_w]; rw [c3b0]) | skip)
      by_cases c4 : 0 ≤ 8
      · rw [if_pos c4] at H
        have c4b0 := eq_true c4
        have c4b1 : decide (0 ≤ 8) = true := decide_eq_true c4
        clear c4
        by_cases c5 : 8 ≤ (a0.size : Int)
        · rw [if_pos c5] at H
          have c5b0 := eq_true c5
          have c5b1 : decide (8 ≤ (a0.size : Int)) = true := decide_eq_true c5
          clear c5
          replace H := Option.bind_eq_some_iff.mp H
          obtain ⟨t101, A60, H⟩ := H
          replace H : (spec_SmtpCommand.j0 k a0 (t101.toList == ([83, 84, 65, 82, 84, 84, 76, 83] : List UInt8))) = some (r1, r2, r3, r4) := H
          have A6 := Aside0.mk A60
          clear A60
          have H' := Aside0.mk H
          clear H
          go_wp2_with (first | (go_at_call 47; (with_reducible refine (Own.spec_Upper.calls (a0.extract 0 8) t101 _ A6.out).mono ?_); rintro e w7 ⟨rfl, hb⟩; have n0_ := Aside0.mk (below_step (by repeat (first | (with_reducible first | exact HB.out | apply below_alloc | apply pw_below_drewN | apply below_drew1) | exact HB.out)) hb); clear HB; have HB := n0_; clear n0_; (try clear hb); (try clear hb2); (try clear hk); (try clear hi)))
          go_meet
          case rel => exact ⟨_, ((t101.toList == ([83, 84, 65, 82, 84, 84, 76, 83] : List UInt8))), (by first | rfl | (simp; done) | (simp [*]; done)), H', ⟨by first | omega | exact Nat.le_refl _⟩, ⟨by repeat (first | (with_reducible first | exact HB.out | apply below_alloc | apply pw_below_drewN | apply below_drew1) | exact HB.out)⟩⟩
        · rw [if_neg c5] at H
          exact absurd H (by simp)
      · rw [if_neg c4] at H
        exact absurd H (by simp)
    · rw [if_neg c3] at H
      have c3b0 : decide (8 ≤ (a0.size : Int)) = false := decide_eq_false c3
      have c3b1 : decide (8 ≤ a0.size) = false := decide_eq_false (by omega)
      clear c3
      (first | rw [c3b0] | (simp only [i64_w, i32_w]; rw [c3b0]) | skip)
      have H' := Aside0.mk H
      clear H
      go_wp2
      go_meet
      case rel => exact ⟨_, (false), (by first | rfl | (simp; done) | (simp [*]; done)), H', ⟨by first | omega | exact Nat.le_refl _⟩, ⟨by repeat (first | (with_reducible first | exact HB.out | apply below_alloc | apply pw_below_drewN | apply below_drew1) | exact HB.out)⟩⟩
  case rest =>
    clear HC2
    try clear c2
    try clear p2
    try clear c3
    try clear c3b0
    try clear c3b1
    try clear c4
    try clear c4b0
    try clear c4b1
    try clear c5
    try clear c5b0
    try clear c5b1
    obtain ⟨kq, x6_1, rfl, HA, HJ1, HB⟩ := hcut
    cases kq with
    | zero => exact absurd HA.out (by simp [spec_SmtpCommand.j0])
    | succ kj1 =>
      have H := HA.out
      clear HA
      simp only [spec_SmtpCommand.j0] at H
      by_cases c8 : x6_1 = true
      · subst c8
        have H1 : (some ((⟨#[83, 84, 65, 82, 84, 84, 76, 83]⟩ : ByteArray), (⟨#[]⟩ : ByteArray), 0, true)) = some (r1, r2, r3, r4) := by rw [if_pos rfl] at H; exact H
        clear H
        have H := H1
        clear H1
        simp only [Option.some.injEq, Prod.mk.injEq] at H
        obtain ⟨rfl, rfl, rfl, rfl⟩ := H
        go_wp2
        refine bodyPost_ret (results_list (rs := [.tmp 2, .tmp 3, .tmp 4, .tmp 5]) rfl (by simp) (.tmp (.tmp (.tmp (.tmp .nil))))) rfl ?_
        exact ⟨by first | rfl | (simp [errW_none, errW_some] <;> rfl) | (simp [*, errW_none, errW_some] <;> rfl), by repeat (first | (with_reducible first | exact HB.out | apply below_alloc | apply pw_below_drewN | apply below_drew1) | exact HB.out)⟩
      · replace c8 := Bool.eq_false_iff.mpr c8
        subst c8
        have H1 : (if a0.toList = ([] : List UInt8) then (some ((⟨#[]⟩ : ByteArray), (⟨#[]⟩ : ByteArray), 500, false)) else (if (a0.size : Int) < 4 then (spec_SmtpCommand.j1 kj1 a0 true) else (if (a0.size : Int) = 5 then (spec_SmtpCommand.j1 kj1 a0 true) else (if (a0.size : Int) > 5 then (if 4 < (a0.size : Int) then (spec_SmtpCommand.j1 kj1 a0 ((bt a0 4) != 32)) else (none)) else (spec_SmtpCommand.j1 kj1 a0 false))))) = some (r1, r2, r3, r4) := by rw [if_neg (show ¬ (false = true) by decide)] at H; exact H
        clear H
        have H := H1
        clear H1
        by_cases c9 : a0.toList = ([] : List UInt8)
        · rw [if_pos c9] at H
          have c9b0 : (a0.toList == ([] : List UInt8)) = true := beq_iff_eq.mpr c9
          have c9b1 : (a0.toList != ([] : List UInt8)) = false := bne_eq_false_iff_eq.mpr c9
          clear c9
          simp only [Option.some.injEq, Prod.mk.injEq] at H
          obtain ⟨rfl, rfl, rfl, rfl⟩ := H
          go_wp2
          refine bodyPost_ret (results_list (rs := [.tmp 2, .tmp 3, .tmp 4, .tmp 5]) rfl (by simp) (.tmp (.tmp (.tmp (.tmp .nil))))) rfl ?_
          exact ⟨by first | rfl | (simp [errW_none, errW_some] <;> rfl) | (simp [*, errW_none, errW_some] <;> rfl), by repeat (first | (with_reducible first | exact HB.out | apply below_alloc | apply pw_below_drewN | apply below_drew1) | exact HB.out)⟩
        · rw [if_neg c9] at H
          have c9b0 : (a0.toList == ([] : List UInt8)) = false := beq_eq_false_iff_ne.mpr c9
          have c9b1 : (a0.toList != ([] : List UInt8)) = true := bne_iff_ne.mpr c9
          have HC10 := Aside0.mk H
          clear H
          go_upto_region 5 with (fail)
          go_cut [19] (fun v19 wc => ∃ (kq : Nat) (x19_9 : Bool), v19 = .bool x19_9 ∧ Aside0 (spec_SmtpCommand.j1 kq a0 x19_9 = some (r1, r2, r3, r4)) ∧ Aside0 (kq ≤ kj1) ∧ Aside0 (Below w.heap.size w wc))
          case first =>
            have H := HC10.out
            clear HC10
            by_cases c11 : (a0.size : Int) < 4
            · rw [if_pos c11] at H
              have c11b0 : decide ((a0.size : Int) < 4) = true := decide_eq_true c11
              have c11b1 : decide (a0.size < 4) = true := decide_eq_true (by omega)
              clear c11
              (first | rw [c11b0] | (simp only [i64_w, i32_w]; rw [c11b0]) | skip)
              have H' := Aside0.mk H
              clear H
              go_wp2
              go_meet
              case rel => exact ⟨_, (true), (by first | rfl | (simp; done) | (simp [*]; done)), H', ⟨by have := HJ1.out; first | omega | exact Nat.le_refl _⟩, ⟨by repeat (first | (with_reducible first | exact HB.out | apply below_alloc | apply pw_below_drewN | apply below_drew1) | exact HB.out)⟩⟩
            · rw [if_neg c11] at H
              have c11b0 : decide ((a0.size : Int) < 4) = false := decide_eq_false c11
              have c11b1 : decide (a0.size < 4) = false := decide_eq_false (by omega)
              clear c11
              (first | rw [c11b0] | (simp only [i64_w, i32_w]; rw [c11b0]) | skip)
              by_cases c12 : (a0.size : Int) = 5
              · rw [if_pos c12] at H
                have c12b0 : ((a0.size : Int) == 5) = true := beq_iff_eq.mpr c12
                have c12b1 : ((a0.size : Int) != 5) = false := bne_eq_false_iff_eq.mpr c12
                clear c12
                have H' := Aside0.mk H
                clear H
                go_wp2
                go_meet
                case rel => exact ⟨_, (true), (by first | rfl | (simp; done) | (simp [*]; done)), H', ⟨by have := HJ1.out; first | omega | exact Nat.le_refl _⟩, ⟨by repeat (first | (with_reducible first | exact HB.out | apply below_alloc | apply pw_below_drewN | apply below_drew1) | exact HB.out)⟩⟩
              · rw [if_neg c12] at H
                have c12b0 : ((a0.size : Int) == 5) = false := beq_eq_false_iff_ne.mpr c12
                have c12b1 : ((a0.size : Int) != 5) = true := bne_iff_ne.mpr c12
                by_cases c13 : (a0.size : Int) > 5
                · rw [if_pos c13] at H
                  have c13b0 : decide (5 < (a0.size : Int)) = true := decide_eq_true c13
                  have c13b1 : decide (5 < a0.size) = true := decide_eq_true (by omega)
                  clear c13
                  by_cases c14 : 4 < (a0.size : Int)
                  · rw [if_pos c14] at H
                    have c14b0 : decide (4 < (a0.size : Int)) = true := decide_eq_true c14
                    have c14b1 : decide (4 < a0.size) = true := decide_eq_true (by omega)
                    clear c14
                    have H' := Aside0.mk H
                    clear H
                    have p15 : 0 ≤ (4 : Int) := (by omega)
                    have q15 : 4 < a0.size := (by have : (4 : Int) < (a0.size : Int) := of_decide_eq_true (by first | (with_reducible assumption) | assumption); omega)
                    have hx15 : ∀ h : 4 < a0.size, ((a0[4]'h).toNat : Int) = bt a0 4 := bt_at a0 4
                    clear p15
                    have qi15 : (4 < (a0.size : Int)) = True := eq_true (of_decide_eq_true (by first | (with_reducible assumption) | assumption))
                    replace q15 := eq_true q15
                    go_wp2
                    go_meet
                    case rel => exact ⟨_, (((bt a0 4) != 32)), (by first | rfl | (simp; done) | (simp [*]; done)), H', ⟨by have := HJ1.out; first | omega | exact Nat.le_refl _⟩, ⟨by repeat (first | (with_reducible first | exact HB.out | apply below_alloc | apply pw_below_drewN | apply below_drew1) | exact HB.out)⟩⟩
                  · rw [if_neg c14] at H
                    exact absurd H (by simp)
                · rw [if_neg c13] at H
                  have c13b0 : decide (5 < (a0.size : Int)) = false := decide_eq_false c13
                  have c13b1 : decide (5 < a0.size) = false := decide_eq_false (by omega)
                  clear c13
                  have H' := Aside0.mk H
                  clear H
                  go_wp2
                  go_meet
                  case rel => exact ⟨_, (false), (by first | rfl | (simp; done) | (simp [*]; done)), H', ⟨by have := HJ1.out; first | omega | exact Nat.le_refl _⟩, ⟨by repeat (first | (with_reducible first | exact HB.out | apply below_alloc | apply pw_below_drewN | apply below_drew1) | exact HB.out)⟩⟩
          case rest =>
            clear HC10
            try clear c1
            try clear p1
            try clear q1
            try clear hx1
            try clear qi1
            try clear c2
            try clear p2
            try clear c3
            try clear c3b0
            try clear c3b1
            try clear c4
            try clear c4b0
            try clear c4b1
            try clear c5
            try clear c5b0
            try clear c5b1
            try clear c8
            try clear c9
            try clear c9b0
            try clear c9b1
            try clear c11
            try clear c11b0
            try clear c11b1
            try clear c12
            try clear c12b0
            try clear c12b1
            try clear c13
            try clear c13b0
            try clear c13b1
            try clear c14
            try clear c14b0
            try clear c14b1
            try clear p15
            try clear q15
            try clear hx15
            try clear qi15
            try clear p15
            try clear p2
            try clear q15
            obtain ⟨kq, x19_9, rfl, HA, HJ9, HB⟩ := hcut
            cases kq with
            | zero => exact absurd HA.out (by simp [spec_SmtpCommand.j1])
            | succ kj9 =>
              have H := HA.out
              clear HA
              simp only [spec_SmtpCommand.j1] at H
              by_cases c16 : x19_9 = true
              · subst c16
                have H1 : (some ((⟨#[]⟩ : ByteArray), (⟨#[]⟩ : ByteArray), 501, false)) = some (r1, r2, r3, r4) := by rw [if_pos rfl] at H; exact H
                clear H
                have H := H1
                clear H1
                simp only [Option.some.injEq, Prod.mk.injEq] at H
                obtain ⟨rfl, rfl, rfl, rfl⟩ := H
                go_wp2
                refine bodyPost_ret (results_list (rs := [.tmp 2, .tmp 3, .tmp 4, .tmp 5]) rfl (by simp) (.tmp (.tmp (.tmp (.tmp .nil))))) rfl ?_
                exact ⟨by first | rfl | (simp [errW_none, errW_some] <;> rfl) | (simp [*, errW_none, errW_some] <;> rfl), by repeat (first | (with_reducible first | exact HB.out | apply below_alloc | apply pw_below_drewN | apply below_drew1) | exact HB.out)⟩
              · replace c16 := Bool.eq_false_iff.mpr c16
                subst c16
                have H1 : (if (a0.size : Int) = 4 then ((Own.spec_Upper.f a0).bind fun t102 => (some (t102, (⟨#[]⟩ : ByteArray), 0, true))) else (if 0 ≤ 4 then (if 4 ≤ (a0.size : Int) then ((Own.spec_Upper.f (a0.extract 0 4)).bind fun t103 => (if 5 ≤ (a0.size : Int) then ((spec_trimBlanks.f kj9 (a0.extract 5 a0.size)).bind fun t104 => (some (t103, t104, 0, true))) else (none))) else (none)) else (none))) = some (r1, r2, r3, r4) := by rw [if_neg (show ¬ (false = true) by decide)] at H; exact H
                clear H
                have H := H1
                clear H1
                by_cases c17 : (a0.size : Int) = 4
                · rw [if_pos c17] at H
                  have c17b0 : ((a0.size : Int) == 4) = true := beq_iff_eq.mpr c17
                  have c17b1 : ((a0.size : Int) != 4) = false := bne_eq_false_iff_eq.mpr c17
                  clear c17
                  replace H := Option.bind_eq_some_iff.mp H
                  obtain ⟨t102, A180, H⟩ := H
                  replace H : (some (t102, (⟨#[]⟩ : ByteArray), 0, true)) = some (r1, r2, r3, r4) := H
                  have A18 := Aside0.mk A180
                  clear A180
                  simp only [Option.some.injEq, Prod.mk.injEq] at H
                  obtain ⟨rfl, rfl, rfl, rfl⟩ := H
                  go_wp2_with (first | ((with_reducible refine gate_callee (f := 47) rfl ?_); refine goesL_ (some 43) rfl rfl Tryd.func47 (by kernel_rfl) rfl #[.string a0] rfl (by (try simp only [List.map_toArray, List.map_cons, List.map_nil]); first | done | rfl | (simp only [List.length_drop, List.length_take]; rfl)) ?_; (with_reducible refine (Own.spec_Upper.calls a0 t102 _ A18.out).mono ?_); rintro e w19 ⟨rfl, hb⟩; refine ⟨_, rfl, ?_⟩; have n0_ := Aside0.mk (below_step (by repeat (first | (with_reducible first | exact HB.out | apply below_alloc | apply pw_below_drewN | apply below_drew1) | exact HB.out)) hb); clear HB; have HB := n0_; clear n0_; (try clear hb); (try clear hb2); (try clear hk); (try clear hi)))
                  refine bodyPost_ret (results_list (rs := [.tmp 2, .tmp 3, .tmp 4, .tmp 5]) rfl (by simp) (.tmp (.tmp (.tmp (.tmp .nil))))) rfl ?_
                  exact ⟨by first | rfl | (simp [errW_none, errW_some] <;> rfl) | (simp [*, errW_none, errW_some] <;> rfl), by repeat (first | (with_reducible first | exact HB.out | apply below_alloc | apply pw_below_drewN | apply below_drew1) | exact HB.out)⟩
                · rw [if_neg c17] at H
                  have c17b0 : ((a0.size : Int) == 4) = false := beq_eq_false_iff_ne.mpr c17
                  have c17b1 : ((a0.size : Int) != 4) = true := bne_iff_ne.mpr c17
                  by_cases c20 : 0 ≤ 4
                  · rw [if_pos c20] at H
                    have c20b0 := eq_true c20
                    have c20b1 : decide (0 ≤ 4) = true := decide_eq_true c20
                    clear c20
                    by_cases c21 : 4 ≤ (a0.size : Int)
                    · rw [if_pos c21] at H
                      have c21b0 := eq_true c21
                      have c21b1 : decide (4 ≤ (a0.size : Int)) = true := decide_eq_true c21
                      clear c21
                      replace H := Option.bind_eq_some_iff.mp H
                      obtain ⟨t103, A220, H⟩ := H
                      replace H : (if 5 ≤ (a0.size : Int) then ((spec_trimBlanks.f kj9 (a0.extract 5 a0.size)).bind fun t104 => (some (t103, t104, 0, true))) else (none)) = some (r1, r2, r3, r4) := H
                      have A22 := Aside0.mk A220
                      clear A220
                      by_cases c23 : 5 ≤ (a0.size : Int)
                      · rw [if_pos c23] at H
                        have c23b0 := eq_true c23
                        have c23b1 : decide (5 ≤ (a0.size : Int)) = true := decide_eq_true c23
                        clear c23
                        replace H := Option.bind_eq_some_iff.mp H
                        obtain ⟨t104, A240, H⟩ := H
                        replace H : (some (t103, t104, 0, true)) = some (r1, r2, r3, r4) := H
                        have A24 := Aside0.mk A240
                        clear A240
                        simp only [Option.some.injEq, Prod.mk.injEq] at H
                        obtain ⟨rfl, rfl, rfl, rfl⟩ := H
                        try go_wp2
                        have n0_ := Aside0.mk (below_drew1 HB.out)
                        clear HB
                        have HB := n0_
                        clear n0_
                        refine start_ (n := 10) (S := fun w' => True) (ds := []) #[false, false, false, false, false, false, false, false, false, false] (by kernel_rfl) rfl rfl trivial (fun hHeld => ?_); refine with_tabW spec_SmtpCommand.tab9 spec_SmtpCommand.bits9 (fun HT_ HW_ => ?_)
                        generalize wc.drew = w25 at HB hHeld ⊢
                        refine pure_ (i := 0) (N := some 44) (v := ?_) (a' := ?_) #[true, false, false, false, false, false, false, false, false, false] rfl rfl (any_of HT_.out (by kernel_rfl)) (fun _ _ _ h => h) (Or.inl ⟨by rfl, ?_⟩) ?_ ?_
                        rotate_left
                        · intro w'
                          go_simp
                          with_reducible rfl
                        rotate_left
                        · simp only [Act.put, List.setIfInBounds_toArray, List.set_cons_zero, List.set_cons_succ, i64_w, i32_w]
                          rfl
                        refine pure_ (i := 1) (N := some 45) (v := ?_) (a' := ?_) #[true, true, false, false, false, false, false, false, false, false] rfl rfl (any_of HT_.out (by kernel_rfl)) (fun _ _ _ h => h) (Or.inl ⟨by rfl, ?_⟩) ?_ ?_
                        rotate_left
                        · intro w'
                          go_simp
                          with_reducible rfl
                        rotate_left
                        · simp only [Act.put, List.setIfInBounds_toArray, List.set_cons_zero, List.set_cons_succ, i64_w, i32_w]
                          rfl
                        refine pure_ (i := 3) (N := some 47) (v := ?_) (a' := ?_) #[true, true, false, true, false, false, false, false, false, false] rfl rfl (any_of HT_.out (by kernel_rfl)) (fun _ _ _ h => h) (Or.inl ⟨by rfl, ?_⟩) ?_ ?_
                        rotate_left
                        · intro w'
                          go_simp
                          with_reducible rfl
                        rotate_left
                        · simp only [Act.put, List.setIfInBounds_toArray, List.set_cons_zero, List.set_cons_succ, i64_w, i32_w]
                          rfl
                        refine pure_ (i := 4) (N := some 48) (v := ?_) (a' := ?_) #[true, true, false, true, true, false, false, false, false, false] rfl rfl (any_of HT_.out (by kernel_rfl)) (fun _ _ _ h => h) (Or.inl ⟨by rfl, ?_⟩) ?_ ?_
                        rotate_left
                        · intro w'
                          go_simp
                          with_reducible rfl
                        rotate_left
                        · simp only [Act.put, List.setIfInBounds_toArray, List.set_cons_zero, List.set_cons_succ, i64_w, i32_w]
                          rfl
                        refine one_ (i := 2) (N := some 46) #[true, true, true, true, true, false, false, false, false, false] rfl rfl (one_of HT_.out (by kernel_rfl)) (by decide) (fun K hK => ?_)
                        refine goes_ Tryd.func47 (by kernel_rfl) rfl #[.string (a0.extract 0 4)] (by rfl) rfl rfl (by (try simp only [List.map_toArray, List.map_cons, List.map_nil]); first | done | rfl | (simp only [List.length_drop, List.length_take]; rfl)) ?_
                        with_reducible refine (Own.spec_Upper.calls (a0.extract 0 4) t103 _ A22.out).mono ?_
                        rintro e w26 ⟨rfl, hb⟩
                        refine ⟨_, rfl, ?_⟩
                        have n0_ := Aside0.mk (below_step (by repeat (first | (with_reducible first | exact HB.out | apply below_alloc | apply pw_below_drewN | apply below_drew1) | exact HB.out)) hb)
                        clear HB
                        have HB := n0_
                        clear n0_
                        (try clear hb)
                        (try clear hb2)
                        (try clear hk)
                        (try clear hi)
                        refine hK.out _ _ trivial (fun hHeld => ?_)
                        clear hK K
                        refine norm_ (a' := ?_) ?_ ?_
                        rotate_left
                        · show Act.put _ (some 46) _ = _
                          simp only [Act.put, List.setIfInBounds_toArray, List.set_cons_zero, List.set_cons_succ, i64_w, i32_w]
                          rfl
                        refine one_ (i := 5) (N := some 49) #[true, true, true, true, true, true, false, false, false, false] rfl rfl (one_of HT_.out (by kernel_rfl)) (by decide) (fun K hK => ?_)
                        refine goes_ Tryd.func48 (by kernel_rfl) rfl #[.string (a0.extract 5 a0.size)] (by rfl) rfl rfl (by (try simp only [List.map_toArray, List.map_cons, List.map_nil]); first | done | rfl | (simp only [List.length_drop, List.length_take]; rfl)) ?_
                        with_reducible refine (spec_trimBlanks.calls kj9 (a0.extract 5 a0.size) t104 _ A24.out).mono ?_
                        rintro e w' ⟨rfl, ⟨nd, rfl⟩⟩
                        refine ⟨_, rfl, ?_⟩
                        refine hK.out _ _ trivial (fun hHeld => ?_)
                        clear hK K
                        refine norm_ (a' := ?_) ?_ ?_
                        rotate_left
                        · show Act.put _ (some 49) _ = _
                          simp only [Act.put, List.setIfInBounds_toArray, List.set_cons_zero, List.set_cons_succ, i64_w, i32_w]
                          rfl
                        refine pure_ (i := 6) (N := some 2) (v := ?_) (a' := ?_) #[true, true, true, true, true, true, true, false, false, false] rfl rfl (any_of HT_.out (by kernel_rfl)) (fun _ _ _ h => h) (Or.inl ⟨by rfl, ?_⟩) ?_ ?_
                        rotate_left
                        · intro w'
                          go_simp
                          with_reducible rfl
                        rotate_left
                        · simp only [Act.put, List.setIfInBounds_toArray, List.set_cons_zero, List.set_cons_succ, i64_w, i32_w]
                          rfl
                        refine pure_ (i := 7) (N := some 3) (v := ?_) (a' := ?_) #[true, true, true, true, true, true, true, true, false, false] rfl rfl (any_of HT_.out (by kernel_rfl)) (fun _ _ _ h => h) (Or.inl ⟨by rfl, ?_⟩) ?_ ?_
                        rotate_left
                        · intro w'
                          go_simp
                          with_reducible rfl
                        rotate_left
                        · simp only [Act.put, List.setIfInBounds_toArray, List.set_cons_zero, List.set_cons_succ, i64_w, i32_w]
                          rfl
                        refine pure_ (i := 8) (N := some 4) (v := ?_) (a' := ?_) #[true, true, true, true, true, true, true, true, true, false] rfl rfl (any_of HT_.out (by kernel_rfl)) (fun _ _ _ h => h) (Or.inl ⟨by rfl, ?_⟩) ?_ ?_
                        rotate_left
                        · intro w'
                          go_simp
                          with_reducible rfl
                        rotate_left
                        · simp only [Act.put, List.setIfInBounds_toArray, List.set_cons_zero, List.set_cons_succ, i64_w, i32_w]
                          rfl
                        refine pure_ (i := 9) (N := some 5) (v := ?_) (a' := ?_) #[true, true, true, true, true, true, true, true, true, true] rfl rfl (any_of HT_.out (by kernel_rfl)) (fun _ _ _ h => h) (Or.inl ⟨by rfl, ?_⟩) ?_ ?_
                        rotate_left
                        · intro w'
                          go_simp
                          with_reducible rfl
                        rotate_left
                        · simp only [Act.put, List.setIfInBounds_toArray, List.set_cons_zero, List.set_cons_succ, i64_w, i32_w]
                          rfl
                        refine done_ (done_of HT_.out (by kernel_rfl)) ?_
                        try go_wp2
                        refine bodyPost_ret (results_list (rs := [.tmp 2, .tmp 3, .tmp 4, .tmp 5]) rfl (by simp) (.tmp (.tmp (.tmp (.tmp .nil))))) rfl ?_
                        exact ⟨by first | rfl | (simp [errW_none, errW_some] <;> rfl) | (simp [*, errW_none, errW_some] <;> rfl), by repeat (first | (with_reducible first | exact HB.out | apply below_alloc | apply pw_below_drewN | apply below_drew1) | exact HB.out)⟩
                      · rw [if_neg c23] at H
                        exact absurd H (by simp)
                    · rw [if_neg c21] at H
                      exact absurd H (by simp)
                  · rw [if_neg c20] at H
                    exact absurd H (by simp)

end Go.Proofs.YtnokeaiemiiicaaDoor.PFnReadCommand
