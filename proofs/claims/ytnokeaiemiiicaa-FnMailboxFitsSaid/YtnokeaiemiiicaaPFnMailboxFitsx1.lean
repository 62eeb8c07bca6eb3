-- Printed for this claim by a copy of the kit's print that takes hand-proved callees (wip/patch_print.py).
import Derived.Test.YtnokeaiemiiicaaPFnMailboxFitsx0
namespace Go.Proofs.Ytnokeaiemiiicaa.PFnMailboxFits
open Go.RowKit Go.Proofs.YtnokeaiemiiicaaW.PrintWords Go.Proofs.YtnokeaiemiiicaaW.PrintLast Go.Proofs.YtnokeaiemiiicaaW.PrintMore
attribute [local go_sem] max2_int min2_int max_two min_two max_three min_three max_four min_four   -- for this text's walks alone
set_option linter.unusedVariables false
set_option linter.unusedSimpArgs false

/-! ### spec_Shown9: function 14 -/
def spec_Shown9.l0 : Nat → ByteArray → Int → Int → Option (Bool)
  | 0, _, _, _ => none
  | k + 1, x0, x5, x6 => if x6 < x5 then (if 0 ≤ x6 then (if x6 < (x0.size : Int) then (if (bt x0 x6) < 32 then (some false) else (if (bt x0 x6) > 126 then (some false) else (spec_Shown9.l0 k x0 x5 (wrap64 (x6 + 1))))) else (none)) else (none)) else (some true)
def spec_Shown9.f (k : Nat) (a0 : ByteArray) : Option (Bool) := spec_Shown9.l0 k a0 (a0.size : Int) 0
theorem spec_Shown9.mono_l : ∀ k, (∀ y0 y1 y2, LeO (spec_Shown9.l0 k y0 y1 y2) (spec_Shown9.l0 (k + 1) y0 y1 y2))
  | 0 => fun _ _ _ r h => by simp [spec_Shown9.l0] at h
  | k + 1 => by
    have ih0 := spec_Shown9.mono_l k
    · intro y0 y1 y2
      unfold spec_Shown9.l0
      repeat' first
      | (with_reducible exact ih0 _ _ _)
      | (with_reducible exact LeO.refl _)
      | (with_reducible exact LeO.none _)
      | (with_reducible refine LeO.ite ?_ ?_)
      | (with_reducible refine LeO.bind ?_ (fun _ => ?_))
      | exact ih0 _ _ _
      | exact LeO.none _
      | refine LeO.ite ?_ ?_
      | refine LeO.bind ?_ (fun _ => ?_)
theorem spec_Shown9.mono : ∀ a0 k, LeO (spec_Shown9.f k a0) (spec_Shown9.f (k + 1) a0) := by
  intro a0 k
  have ih0 := spec_Shown9.mono_l k
  unfold spec_Shown9.f
  repeat' first
      | (with_reducible exact ih0 _ _ _)
      | (with_reducible exact LeO.refl _)
      | (with_reducible exact LeO.none _)
      | (with_reducible refine LeO.ite ?_ ?_)
      | (with_reducible refine LeO.bind ?_ (fun _ => ?_))
      | exact ih0 _ _ _
      | exact LeO.none _
      | refine LeO.ite ?_ ?_
      | refine LeO.bind ?_ (fun _ => ?_)
set_option maxHeartbeats 8000000 in
set_option maxRecDepth 100000 in
theorem spec_Shown9.calls (k : Nat) (a0 : ByteArray) (r : Bool) (w : World) (h : spec_Shown9.f k a0 = some r) :
    Calls Try.prog 14 #[.string a0] w fun e w' => e = .returned (.bool r) ∧ Drawn0 w w' := by
  have H : (spec_Shown9.l0 k a0 (a0.size : Int) 0) = some r := h
  clear h
  have H' := Aside0.mk H
  clear H
  go_enter Try.func14, Try.ntmps14
  go_wp2
  go_loopg [6] k (fun kq v6 w' => ∃ (x6_1 : Int), v6 = .int .i64 x6_1 ∧ Aside0 (spec_Shown9.l0 kq a0 (a0.size : Int) x6_1 = some r) ∧ Aside0 (kq ≤ k) ∧ Drawn0 w w')
  case atStart => exact ⟨(0), (by first | rfl | (simp; done) | (simp [*]; done)), H', ⟨Nat.le_refl _⟩, by repeat (first | exact Drawn0.refl _ | apply Drawn0.step)⟩
  case round =>
    clear H'
    try clear c1
    obtain ⟨x6_1, rfl, HA, HK1, ⟨m1, rfl⟩⟩ := hrel
    cases gk with
    | zero => exact absurd HA.out (by simp [spec_Shown9.l0])
    | succ k1 =>
      have H := HA.out
      clear HA
      simp only [spec_Shown9.l0] at H
      by_cases c2 : x6_1 < (a0.size : Int)
      · rw [if_pos c2] at H
        have c2b0 : decide (x6_1 < (a0.size : Int)) = true := decide_eq_true c2
        clear c2
        by_cases c3 : 0 ≤ x6_1
        · rw [if_pos c3] at H
          have c3b0 : decide (0 ≤ x6_1) = true := decide_eq_true c3
          clear c3
          by_cases c4 : x6_1 < (a0.size : Int)
          · rw [if_pos c4] at H
            have c4b0 : decide (x6_1 < (a0.size : Int)) = true := decide_eq_true c4
            clear c4
            by_cases c6 : (bt a0 x6_1) < 32
            · rw [if_pos c6] at H
              have c6b0 : decide ((bt a0 x6_1) < 32) = true := decide_eq_true c6
              clear c6
              obtain rfl := Option.some.inj H
              have p5 : 0 ≤ (x6_1 : Int) := of_decide_eq_true (by first | (with_reducible assumption) | assumption)
              have q5 : x6_1 < (a0.size : Int) := of_decide_eq_true (by first | (with_reducible assumption) | assumption)
              have hx5 := bt_at a0 x6_1
              replace p5 := eq_true p5
              replace q5 := eq_true q5
              go_wp2
              go_ret
              exact ⟨by first | rfl | (simp; done) | (simp [*]; done), by repeat (first | exact Drawn0.refl _ | apply Drawn0.step)⟩
            · rw [if_neg c6] at H
              have c6b0 : decide ((bt a0 x6_1) < 32) = false := decide_eq_false c6
              clear c6
              by_cases c8 : (bt a0 x6_1) > 126
              · rw [if_pos c8] at H
                have c8b0 : decide (126 < (bt a0 x6_1)) = true := decide_eq_true c8
                clear c8
                obtain rfl := Option.some.inj H
                have p5 : 0 ≤ (x6_1 : Int) := of_decide_eq_true (by first | (with_reducible assumption) | assumption)
                have q5 : x6_1 < (a0.size : Int) := of_decide_eq_true (by first | (with_reducible assumption) | assumption)
                have hx5 := bt_at a0 x6_1
                replace p5 := eq_true p5
                replace q5 := eq_true q5
                have p7 : 0 ≤ (x6_1 : Int) := of_decide_eq_true (by first | (with_reducible assumption) | assumption)
                have q7 : x6_1 < (a0.size : Int) := of_decide_eq_true (by first | (with_reducible assumption) | assumption)
                have hx7 := bt_at a0 x6_1
                replace p7 := eq_true p7
                replace q7 := eq_true q7
                go_wp2
                go_ret
                exact ⟨by first | rfl | (simp; done) | (simp [*]; done), by repeat (first | exact Drawn0.refl _ | apply Drawn0.step)⟩
              · rw [if_neg c8] at H
                have c8b0 : decide (126 < (bt a0 x6_1)) = false := decide_eq_false c8
                clear c8
                have H' := Aside0.mk H
                clear H
                have p5 : 0 ≤ (x6_1 : Int) := of_decide_eq_true (by first | (with_reducible assumption) | assumption)
                have q5 : x6_1 < (a0.size : Int) := of_decide_eq_true (by first | (with_reducible assumption) | assumption)
                have hx5 := bt_at a0 x6_1
                replace p5 := eq_true p5
                replace q5 := eq_true q5
                have p7 : 0 ≤ (x6_1 : Int) := of_decide_eq_true (by first | (with_reducible assumption) | assumption)
                have q7 : x6_1 < (a0.size : Int) := of_decide_eq_true (by first | (with_reducible assumption) | assumption)
                have hx7 := bt_at a0 x6_1
                replace p7 := eq_true p7
                replace q7 := eq_true q7
                go_wp2
                go_roundg k1
                case measure => have := HK1.out; omega
                case rel => exact ⟨(wrap64 (x6_1 + 1)), (by first | rfl | (simp; done) | (simp [*]; done)), H', ⟨by have := HK1.out; omega⟩, by repeat (first | exact Drawn0.refl _ | apply Drawn0.step)⟩
          · rw [if_neg c4] at H
            exact absurd H (by simp)
        · rw [if_neg c3] at H
          exact absurd H (by simp)
      · rw [if_neg c2] at H
        have c2b0 : decide (x6_1 < (a0.size : Int)) = false := decide_eq_false c2
        clear c2
        obtain rfl := Option.some.inj H
        go_wp2
        go_ret
        exact ⟨by first | rfl | (simp; done) | (simp [*]; done), by repeat (first | exact Drawn0.refl _ | apply Drawn0.step)⟩

/-! ### laws_FnMailboxFits: function 8 -/
mutual
def laws_FnMailboxFits.j0 : Nat → ByteArray → ByteArray → ByteArray → Int → Bool → Option (Bool)
  | 0, _, _, _, _, _ => none
  | k + 1, x0, x1, x2, x3, x24 => if x24 = true then (some true) else (laws_FnMailboxFits.l0 k x0 x1 x2 x3 0 (x2.size : Int) 0)
def laws_FnMailboxFits.l0 : Nat → ByteArray → ByteArray → ByteArray → Int → Int → Int → Int → Option (Bool)
  | 0, _, _, _, _, _, _, _ => none
  | k + 1, x0, x1, x2, x3, x9, x26, x27 => if x27 < x26 then (if 0 ≤ x27 then (if x27 < (x2.size : Int) then (if (bt x2 x27) = 42 then (laws_FnMailboxFits.l0 k x0 x1 x2 x3 (wrap64 (x9 + 1)) x26 (wrap64 (x27 + 1))) else (if (bt x2 x27) = 37 then (laws_FnMailboxFits.l0 k x0 x1 x2 x3 (wrap64 (x9 + 1)) x26 (wrap64 (x27 + 1))) else (laws_FnMailboxFits.l0 k x0 x1 x2 x3 x9 x26 (wrap64 (x27 + 1))))) else (none)) else (none)) else (if x3 ≤ 32 then (laws_FnMailboxFits.j2 k x0 x1 x2 x3 true) else (if x3 > 126 then (laws_FnMailboxFits.j2 k x0 x1 x2 x3 true) else (if x3 = 42 then (laws_FnMailboxFits.j2 k x0 x1 x2 x3 true) else (if x3 = 37 then (laws_FnMailboxFits.j2 k x0 x1 x2 x3 true) else (if x9 > 6 then (laws_FnMailboxFits.j2 k x0 x1 x2 x3 true) else (if (x0.size : Int) > 40 then (laws_FnMailboxFits.j2 k x0 x1 x2 x3 true) else (if (x1.size : Int) > 40 then (laws_FnMailboxFits.j2 k x0 x1 x2 x3 true) else (if (x2.size : Int) > 40 then (laws_FnMailboxFits.j2 k x0 x1 x2 x3 true) else (if x0.size + x1.size ≤ 9223372036854775807 then (if (x0 ++ x1).size + x2.size ≤ 9223372036854775807 then ((spec_Shown9.f k ((x0 ++ x1) ++ x2)).bind fun t101 => (laws_FnMailboxFits.j2 k x0 x1 x2 x3 (!t101))) else (none)) else (none))))))))))
def laws_FnMailboxFits.j2 : Nat → ByteArray → ByteArray → ByteArray → Int → Bool → Option (Bool)
  | 0, _, _, _, _, _ => none
  | k + 1, x0, x1, x2, x3, x84 => if x84 = true then (some true) else ((some (([x3] : List Int) : List Int)).bind fun y102 => ((Own.impl_MailboxFits.f x0 (strOfNums y102) x1 x2).bind fun t105 => ((Own.spec_Fits9.f x0 (strOfNums y102) x1 x2).bind fun t106 => (if (t105 == t106) = true then ((Own.impl_MailboxFits.f (⟨#[97]⟩ : ByteArray) (⟨#[47]⟩ : ByteArray) (⟨#[]⟩ : ByteArray) (⟨#[97]⟩ : ByteArray)).bind fun t107 => (some t107)) else (some false)))))
end
def laws_FnMailboxFits.f (k : Nat) (a0 : ByteArray) (a1 : ByteArray) (a2 : ByteArray) (a3 : Int) : Option (Bool) := if (a0.size : Int) > 2147483647 then (laws_FnMailboxFits.j0 k a0 a1 a2 a3 true) else (if (a1.size : Int) > 2147483647 then (laws_FnMailboxFits.j0 k a0 a1 a2 a3 true) else (laws_FnMailboxFits.j0 k a0 a1 a2 a3 (decide ((a2.size : Int) > 2147483647))))
theorem laws_FnMailboxFits.mono_l : ∀ k, (∀ y0 y1 y2 y3 y4, LeO (laws_FnMailboxFits.j0 k y0 y1 y2 y3 y4) (laws_FnMailboxFits.j0 (k + 1) y0 y1 y2 y3 y4)) ∧ (∀ y0 y1 y2 y3 y4 y5 y6, LeO (laws_FnMailboxFits.l0 k y0 y1 y2 y3 y4 y5 y6) (laws_FnMailboxFits.l0 (k + 1) y0 y1 y2 y3 y4 y5 y6)) ∧ (∀ y0 y1 y2 y3 y4, LeO (laws_FnMailboxFits.j2 k y0 y1 y2 y3 y4) (laws_FnMailboxFits.j2 (k + 1) y0 y1 y2 y3 y4))
  | 0 => ⟨fun _ _ _ _ _ r h => by simp [laws_FnMailboxFits.j0] at h, fun _ _ _ _ _ _ _ r h => by simp [laws_FnMailboxFits.l0] at h, fun _ _ _ _ _ r h => by simp [laws_FnMailboxFits.j2] at h⟩
  | k + 1 => by
    obtain ⟨ih0, ih1, ih2⟩ := laws_FnMailboxFits.mono_l k
    refine ⟨?_, ?_, ?_⟩
    · intro y0 y1 y2 y3 y4
      unfold laws_FnMailboxFits.j0
      repeat' first
      | (with_reducible exact ih0 _ _ _ _ _)
      | (with_reducible exact ih1 _ _ _ _ _ _ _)
      | (with_reducible exact ih2 _ _ _ _ _)
      | (with_reducible exact spec_Shown9.mono _ _)
      | (with_reducible exact LeO.refl _)
      | (with_reducible exact LeO.none _)
      | (with_reducible refine LeO.ite ?_ ?_)
      | (with_reducible refine LeO.bind ?_ (fun _ => ?_))
      | exact ih0 _ _ _ _ _
      | exact ih1 _ _ _ _ _ _ _
      | exact ih2 _ _ _ _ _
      | exact spec_Shown9.mono _ _
      | exact LeO.none _
      | refine LeO.ite ?_ ?_
      | refine LeO.bind ?_ (fun _ => ?_)
    · intro y0 y1 y2 y3 y4 y5 y6
      unfold laws_FnMailboxFits.l0
      repeat' first
      | (with_reducible exact ih0 _ _ _ _ _)
      | (with_reducible exact ih1 _ _ _ _ _ _ _)
      | (with_reducible exact ih2 _ _ _ _ _)
      | (with_reducible exact spec_Shown9.mono _ _)
      | (with_reducible exact LeO.refl _)
      | (with_reducible exact LeO.none _)
      | (with_reducible refine LeO.ite ?_ ?_)
      | (with_reducible refine LeO.bind ?_ (fun _ => ?_))
      | exact ih0 _ _ _ _ _
      | exact ih1 _ _ _ _ _ _ _
      | exact ih2 _ _ _ _ _
      | exact spec_Shown9.mono _ _
      | exact LeO.none _
      | refine LeO.ite ?_ ?_
      | refine LeO.bind ?_ (fun _ => ?_)
    · intro y0 y1 y2 y3 y4
      unfold laws_FnMailboxFits.j2
      repeat' first
      | (with_reducible exact ih0 _ _ _ _ _)
      | (with_reducible exact ih1 _ _ _ _ _ _ _)
      | (with_reducible exact ih2 _ _ _ _ _)
      | (with_reducible exact spec_Shown9.mono _ _)
      | (with_reducible exact LeO.refl _)
      | (with_reducible exact LeO.none _)
      | (with_reducible refine LeO.ite ?_ ?_)
      | (with_reducible refine LeO.bind ?_ (fun _ => ?_))
      | exact ih0 _ _ _ _ _
      | exact ih1 _ _ _ _ _ _ _
      | exact ih2 _ _ _ _ _
      | exact spec_Shown9.mono _ _
      | exact LeO.none _
      | refine LeO.ite ?_ ?_
      | refine LeO.bind ?_ (fun _ => ?_)
theorem laws_FnMailboxFits.mono : ∀ a0 a1 a2 a3 k, LeO (laws_FnMailboxFits.f k a0 a1 a2 a3) (laws_FnMailboxFits.f (k + 1) a0 a1 a2 a3) := by
  intro a0 a1 a2 a3 k
  obtain ⟨ih0, ih1, ih2⟩ := laws_FnMailboxFits.mono_l k
  unfold laws_FnMailboxFits.f
  repeat' first
      | (with_reducible exact ih0 _ _ _ _ _)
      | (with_reducible exact ih1 _ _ _ _ _ _ _)
      | (with_reducible exact ih2 _ _ _ _ _)
      | (with_reducible exact spec_Shown9.mono _ _)
      | (with_reducible exact LeO.refl _)
      | (with_reducible exact LeO.none _)
      | (with_reducible refine LeO.ite ?_ ?_)
      | (with_reducible refine LeO.bind ?_ (fun _ => ?_))
      | exact ih0 _ _ _ _ _
      | exact ih1 _ _ _ _ _ _ _
      | exact ih2 _ _ _ _ _
      | exact spec_Shown9.mono _ _
      | exact LeO.none _
      | refine LeO.ite ?_ ?_
      | refine LeO.bind ?_ (fun _ => ?_)
set_option maxHeartbeats 8000000 in
set_option maxRecDepth 100000 in
theorem laws_FnMailboxFits.calls (k : Nat) (a0 : ByteArray) (a1 : ByteArray) (a2 : ByteArray) (a3 : Int) (r : Bool) (w : World) (h : laws_FnMailboxFits.f k a0 a1 a2 a3 = some r) :
    Calls Try.prog 8 #[.string a0, .string a1, .string a2, .int .u8 a3] w fun e w' => e = .returned (.bool r) ∧ Below w.heap.size w w' := by
  have HB := Aside0.mk (Below.refl w.heap.size w)
  have H : (if (a0.size : Int) > 2147483647 then (laws_FnMailboxFits.j0 k a0 a1 a2 a3 true) else (if (a1.size : Int) > 2147483647 then (laws_FnMailboxFits.j0 k a0 a1 a2 a3 true) else (laws_FnMailboxFits.j0 k a0 a1 a2 a3 (decide ((a2.size : Int) > 2147483647))))) = some r := h
  clear h
  have HC5 := Aside0.mk H
  clear H
  go_enter Try.func8, Try.ntmps8
  go_upto_region 1 with (fail)
  go_cut [24] (fun v24 wc => ∃ (kq : Nat) (x24_4 : Bool), v24 = .bool x24_4 ∧ Aside0 (laws_FnMailboxFits.j0 kq a0 a1 a2 a3 x24_4 = some r) ∧ Aside0 (kq ≤ k) ∧ Aside0 (Below w.heap.size w wc))
  case first =>
    have H := HC5.out
    clear HC5
    by_cases c6 : (a0.size : Int) > 2147483647
    · rw [if_pos c6] at H
      have c6b0 : decide (2147483647 < (a0.size : Int)) = true := decide_eq_true c6
      have c6b1 : decide (2147483647 < a0.size) = true := decide_eq_true (by omega)
      clear c6
      (first | rw [c6b0] | (simp only [i64_w, i32_w]; rw [c6b0]) | skip)
      have H' := Aside0.mk H
      clear H
      go_wp2
      go_meet
      case rel => exact ⟨_, (true), (by first | rfl | (simp; done) | (simp [*]; done)), H', ⟨by first | omega | exact Nat.le_refl _⟩, ⟨by repeat (first | (with_reducible first | exact HB.out | apply below_alloc | apply pw_below_drewN | apply below_drew1) | exact HB.out)⟩⟩
    · rw [if_neg c6] at H
      have c6b0 : decide (2147483647 < (a0.size : Int)) = false := decide_eq_false c6
      have c6b1 : decide (2147483647 < a0.size) = false := decide_eq_false (by omega)
      clear c6
      (first | rw [c6b0] | (simp only [i64_w, i32_w]; rw [c6b0]) | skip)
      by_cases c7 : (a1.size : Int) > 2147483647
      · rw [if_pos c7] at H
        have c7b0 : decide (2147483647 < (a1.size : Int)) = true := decide_eq_true c7
        have c7b1 : decide (2147483647 < a1.size) = true := decide_eq_true (by omega)
        clear c7
        have H' := Aside0.mk H
        clear H
        go_wp2
        go_meet
        case rel => exact ⟨_, (true), (by first | rfl | (simp; done) | (simp [*]; done)), H', ⟨by first | omega | exact Nat.le_refl _⟩, ⟨by repeat (first | (with_reducible first | exact HB.out | apply below_alloc | apply pw_below_drewN | apply below_drew1) | exact HB.out)⟩⟩
      · rw [if_neg c7] at H
        have c7b0 : decide (2147483647 < (a1.size : Int)) = false := decide_eq_false c7
        have c7b1 : decide (2147483647 < a1.size) = false := decide_eq_false (by omega)
        clear c7
        have H' := Aside0.mk H
        clear H
        go_wp2
        go_meet
        case rel => exact ⟨_, (decide ((a2.size : Int) > 2147483647)), (by first | rfl | (simp; done) | (simp [*]; done)), H', ⟨by first | omega | exact Nat.le_refl _⟩, ⟨by repeat (first | (with_reducible first | exact HB.out | apply below_alloc | apply pw_below_drewN | apply below_drew1) | exact HB.out)⟩⟩
  case rest =>
    clear HC5
    try clear p2
    try clear c6
    try clear c6b0
    try clear c6b1
    try clear c7
    try clear c7b0
    try clear c7b1
    obtain ⟨kq, x24_4, rfl, HA, HJ4, HB⟩ := hcut
    cases kq with
    | zero => exact absurd HA.out (by simp [laws_FnMailboxFits.j0])
    | succ kj4 =>
      have H := HA.out
      clear HA
      simp only [laws_FnMailboxFits.j0] at H
      by_cases c8 : x24_4 = true
      · subst c8
        have H1 : (some true) = some r := by rw [if_pos rfl] at H; exact H
        clear H
        have H := H1
        clear H1
        obtain rfl := Option.some.inj H
        go_wp2
        go_ret
        exact ⟨by first | rfl | (simp [errW_none, errW_some] <;> rfl) | (simp [*, errW_none, errW_some] <;> rfl), by repeat (first | (with_reducible first | exact HB.out | apply below_alloc | apply pw_below_drewN | apply below_drew1) | exact HB.out)⟩
      · replace c8 := Bool.eq_false_iff.mpr c8
        subst c8
        have H1 : (laws_FnMailboxFits.l0 kj4 a0 a1 a2 a3 0 (a2.size : Int) 0) = some r := by rw [if_neg (show ¬ (false = true) by decide)] at H; exact H
        clear H
        have H := H1
        clear H1
        have H' := Aside0.mk H
        clear H
        go_wp2
        go_loopg [9, 27] kj4 (fun kq v9 v27 w' => ∃ (x9_2 : Int) (x27_2 : Int), v9 = .int .i64 x9_2 ∧ v27 = .int .i64 x27_2 ∧ Aside0 (laws_FnMailboxFits.l0 kq a0 a1 a2 a3 x9_2 (a2.size : Int) x27_2 = some r) ∧ Aside0 (kq ≤ kj4) ∧ Aside0 (Below w.heap.size w w'))
        case atStart => exact ⟨(0), (0), (by first | rfl | (simp; done) | (simp [*]; done)), (by first | rfl | (simp; done) | (simp [*]; done)), H', ⟨Nat.le_refl _⟩, ⟨by repeat (first | (with_reducible first | exact HB.out | apply below_alloc | apply pw_below_drewN | apply below_drew1) | exact HB.out)⟩⟩
        case round =>
          clear H'
          try clear p2
          try clear c6
          try clear c6b0
          try clear c6b1
          try clear c7
          try clear c7b0
          try clear c7b1
          try clear c8
          try clear p2
          obtain ⟨x9_2, x27_2, rfl, rfl, HA, HK2, HB⟩ := hrel
          cases gk with
          | zero => exact absurd HA.out (by simp [laws_FnMailboxFits.l0])
          | succ k2 =>
            have H := HA.out
            clear HA
            simp only [laws_FnMailboxFits.l0] at H
            by_cases c9 : x27_2 < (a2.size : Int)
            · rw [if_pos c9] at H
              have c9b0 : decide (x27_2 < (a2.size : Int)) = true := decide_eq_true c9
              clear c9
              by_cases c10 : 0 ≤ x27_2
              · rw [if_pos c10] at H
                have c10b0 : decide (0 ≤ x27_2) = true := decide_eq_true c10
                clear c10
                by_cases c11 : x27_2 < (a2.size : Int)
                · rw [if_pos c11] at H
                  have c11b0 : decide (x27_2 < (a2.size : Int)) = true := decide_eq_true c11
                  clear c11
                  by_cases c13 : (bt a2 x27_2) = 42
                  · rw [if_pos c13] at H
                    have c13b0 : ((bt a2 x27_2) == 42) = true := beq_iff_eq.mpr c13
                    have c13b1 : ((bt a2 x27_2) != 42) = false := bne_eq_false_iff_eq.mpr c13
                    clear c13
                    have H' := Aside0.mk H
                    clear H
                    have p12 : 0 ≤ (x27_2 : Int) := of_decide_eq_true (by first | (with_reducible assumption) | assumption)
                    have q12 : x27_2 < (a2.size : Int) := of_decide_eq_true (by first | (with_reducible assumption) | assumption)
                    have hx12 := bt_at a2 x27_2
                    replace p12 := eq_true p12
                    replace q12 := eq_true q12
                    go_wp2
                    go_roundg k2
                    case measure => have := HJ4.out; have := HK2.out; omega
                    case rel => exact ⟨(wrap64 (x9_2 + 1)), (wrap64 (x27_2 + 1)), (by first | rfl | (simp; done) | (simp [*]; done)), (by first | rfl | (simp; done) | (simp [*]; done)), H', ⟨by have := HJ4.out; have := HK2.out; omega⟩, ⟨by repeat (first | (with_reducible first | exact HB.out | apply below_alloc | apply pw_below_drewN | apply below_drew1) | exact HB.out)⟩⟩
                  · rw [if_neg c13] at H
                    have c13b0 : ((bt a2 x27_2) == 42) = false := beq_eq_false_iff_ne.mpr c13
                    have c13b1 : ((bt a2 x27_2) != 42) = true := bne_iff_ne.mpr c13
                    by_cases c15 : (bt a2 x27_2) = 37
                    · rw [if_pos c15] at H
                      have c15b0 : ((bt a2 x27_2) == 37) = true := beq_iff_eq.mpr c15
                      have c15b1 : ((bt a2 x27_2) != 37) = false := bne_eq_false_iff_eq.mpr c15
                      clear c15
                      have H' := Aside0.mk H
                      clear H
                      have p12 : 0 ≤ (x27_2 : Int) := of_decide_eq_true (by first | (with_reducible assumption) | assumption)
                      have q12 : x27_2 < (a2.size : Int) := of_decide_eq_true (by first | (with_reducible assumption) | assumption)
                      have hx12 := bt_at a2 x27_2
                      replace p12 := eq_true p12
                      replace q12 := eq_true q12
                      have p14 : 0 ≤ (x27_2 : Int) := of_decide_eq_true (by first | (with_reducible assumption) | assumption)
                      have q14 : x27_2 < (a2.size : Int) := of_decide_eq_true (by first | (with_reducible assumption) | assumption)
                      have hx14 := bt_at a2 x27_2
                      replace p14 := eq_true p14
                      replace q14 := eq_true q14
                      go_wp2
                      go_roundg k2
                      case measure => have := HJ4.out; have := HK2.out; omega
                      case rel => exact ⟨(wrap64 (x9_2 + 1)), (wrap64 (x27_2 + 1)), (by first | rfl | (simp; done) | (simp [*]; done)), (by first | rfl | (simp; done) | (simp [*]; done)), H', ⟨by have := HJ4.out; have := HK2.out; omega⟩, ⟨by repeat (first | (with_reducible first | exact HB.out | apply below_alloc | apply pw_below_drewN | apply below_drew1) | exact HB.out)⟩⟩
                    · rw [if_neg c15] at H
                      have c15b0 : ((bt a2 x27_2) == 37) = false := beq_eq_false_iff_ne.mpr c15
                      have c15b1 : ((bt a2 x27_2) != 37) = true := bne_iff_ne.mpr c15
                      have H' := Aside0.mk H
                      clear H
                      have p12 : 0 ≤ (x27_2 : Int) := of_decide_eq_true (by first | (with_reducible assumption) | assumption)
                      have q12 : x27_2 < (a2.size : Int) := of_decide_eq_true (by first | (with_reducible assumption) | assumption)
                      have hx12 := bt_at a2 x27_2
                      replace p12 := eq_true p12
                      replace q12 := eq_true q12
                      have p14 : 0 ≤ (x27_2 : Int) := of_decide_eq_true (by first | (with_reducible assumption) | assumption)
                      have q14 : x27_2 < (a2.size : Int) := of_decide_eq_true (by first | (with_reducible assumption) | assumption)
                      have hx14 := bt_at a2 x27_2
                      replace p14 := eq_true p14
                      replace q14 := eq_true q14
                      go_wp2
                      go_roundg k2
                      case measure => have := HJ4.out; have := HK2.out; omega
                      case rel => exact ⟨(x9_2), (wrap64 (x27_2 + 1)), (by first | rfl | (simp; done) | (simp [*]; done)), (by first | rfl | (simp; done) | (simp [*]; done)), H', ⟨by have := HJ4.out; have := HK2.out; omega⟩, ⟨by repeat (first | (with_reducible first | exact HB.out | apply below_alloc | apply pw_below_drewN | apply below_drew1) | exact HB.out)⟩⟩
                · rw [if_neg c11] at H
                  exact absurd H (by simp)
              · rw [if_neg c10] at H
                exact absurd H (by simp)
            · rw [if_neg c9] at H
              have c9b0 : decide (x27_2 < (a2.size : Int)) = false := decide_eq_false c9
              clear c9
              have HC16 := Aside0.mk H
              clear H
              go_upto_region 10 with (fail)
              go_cut [84] (fun v84 wc => ∃ (kq : Nat) (x84_15 : Bool), v84 = .bool x84_15 ∧ Aside0 (laws_FnMailboxFits.j2 kq a0 a1 a2 a3 x84_15 = some r) ∧ Aside0 (kq ≤ k2) ∧ Aside0 (Below w.heap.size w wc))
              case first =>
                have H := HC16.out
                clear HC16
                by_cases c17 : a3 ≤ 32
                · rw [if_pos c17] at H
                  have c17b0 : decide (a3 ≤ 32) = true := decide_eq_true c17
                  clear c17
                  (first | rw [c17b0] | (simp only [i64_w, i32_w]; rw [c17b0]) | skip)
                  have H' := Aside0.mk H
                  clear H
                  go_wp2
                  go_meet
                  case rel => exact ⟨_, (true), (by first | rfl | (simp; done) | (simp [*]; done)), H', ⟨by have := HJ4.out; have := HK2.out; first | omega | exact Nat.le_refl _⟩, ⟨by repeat (first | (with_reducible first | exact HB.out | apply below_alloc | apply pw_below_drewN | apply below_drew1) | exact HB.out)⟩⟩
                · rw [if_neg c17] at H
                  have c17b0 : decide (a3 ≤ 32) = false := decide_eq_false c17
                  clear c17
                  (first | rw [c17b0] | (simp only [i64_w, i32_w]; rw [c17b0]) | skip)
                  by_cases c18 : a3 > 126
                  · rw [if_pos c18] at H
                    have c18b0 : decide (126 < a3) = true := decide_eq_true c18
                    clear c18
                    have H' := Aside0.mk H
                    clear H
                    go_wp2
                    go_meet
                    case rel => exact ⟨_, (true), (by first | rfl | (simp; done) | (simp [*]; done)), H', ⟨by have := HJ4.out; have := HK2.out; first | omega | exact Nat.le_refl _⟩, ⟨by repeat (first | (with_reducible first | exact HB.out | apply below_alloc | apply pw_below_drewN | apply below_drew1) | exact HB.out)⟩⟩
                  · rw [if_neg c18] at H
                    have c18b0 : decide (126 < a3) = false := decide_eq_false c18
                    clear c18
                    by_cases c19 : a3 = 42
                    · rw [if_pos c19] at H
                      have c19b0 : (a3 == 42) = true := beq_iff_eq.mpr c19
                      have c19b1 : (a3 != 42) = false := bne_eq_false_iff_eq.mpr c19
                      clear c19
                      have H' := Aside0.mk H
                      clear H
                      go_wp2
                      go_meet
                      case rel => exact ⟨_, (true), (by first | rfl | (simp; done) | (simp [*]; done)), H', ⟨by have := HJ4.out; have := HK2.out; first | omega | exact Nat.le_refl _⟩, ⟨by repeat (first | (with_reducible first | exact HB.out | apply below_alloc | apply pw_below_drewN | apply below_drew1) | exact HB.out)⟩⟩
                    · rw [if_neg c19] at H
                      have c19b0 : (a3 == 42) = false := beq_eq_false_iff_ne.mpr c19
                      have c19b1 : (a3 != 42) = true := bne_iff_ne.mpr c19
                      by_cases c20 : a3 = 37
                      · rw [if_pos c20] at H
                        have c20b0 : (a3 == 37) = true := beq_iff_eq.mpr c20
                        have c20b1 : (a3 != 37) = false := bne_eq_false_iff_eq.mpr c20
                        clear c20
                        have H' := Aside0.mk H
                        clear H
                        go_wp2
                        go_meet
                        case rel => exact ⟨_, (true), (by first | rfl | (simp; done) | (simp [*]; done)), H', ⟨by have := HJ4.out; have := HK2.out; first | omega | exact Nat.le_refl _⟩, ⟨by repeat (first | (with_reducible first | exact HB.out | apply below_alloc | apply pw_below_drewN | apply below_drew1) | exact HB.out)⟩⟩
                      · rw [if_neg c20] at H
                        have c20b0 : (a3 == 37) = false := beq_eq_false_iff_ne.mpr c20
                        have c20b1 : (a3 != 37) = true := bne_iff_ne.mpr c20
                        by_cases c21 : x9_2 > 6
                        · rw [if_pos c21] at H
                          have c21b0 : decide (6 < x9_2) = true := decide_eq_true c21
                          clear c21
                          have H' := Aside0.mk H
                          clear H
                          go_wp2
                          go_meet
                          case rel => exact ⟨_, (true), (by first | rfl | (simp; done) | (simp [*]; done)), H', ⟨by have := HJ4.out; have := HK2.out; first | omega | exact Nat.le_refl _⟩, ⟨by repeat (first | (with_reducible first | exact HB.out | apply below_alloc | apply pw_below_drewN | apply below_drew1) | exact HB.out)⟩⟩
                        · rw [if_neg c21] at H
                          have c21b0 : decide (6 < x9_2) = false := decide_eq_false c21
                          clear c21
                          by_cases c22 : (a0.size : Int) > 40
                          · rw [if_pos c22] at H
                            have c22b0 : decide (40 < (a0.size : Int)) = true := decide_eq_true c22
                            have c22b1 : decide (40 < a0.size) = true := decide_eq_true (by omega)
                            clear c22
                            have H' := Aside0.mk H
                            clear H
                            go_wp2
                            go_meet
                            case rel => exact ⟨_, (true), (by first | rfl | (simp; done) | (simp [*]; done)), H', ⟨by have := HJ4.out; have := HK2.out; first | omega | exact Nat.le_refl _⟩, ⟨by repeat (first | (with_reducible first | exact HB.out | apply below_alloc | apply pw_below_drewN | apply below_drew1) | exact HB.out)⟩⟩
                          · rw [if_neg c22] at H
                            have c22b0 : decide (40 < (a0.size : Int)) = false := decide_eq_false c22
                            have c22b1 : decide (40 < a0.size) = false := decide_eq_false (by omega)
                            clear c22
                            by_cases c23 : (a1.size : Int) > 40
                            · rw [if_pos c23] at H
                              have c23b0 : decide (40 < (a1.size : Int)) = true := decide_eq_true c23
                              have c23b1 : decide (40 < a1.size) = true := decide_eq_true (by omega)
                              clear c23
                              have H' := Aside0.mk H
                              clear H
                              go_wp2
                              go_meet
                              case rel => exact ⟨_, (true), (by first | rfl | (simp; done) | (simp [*]; done)), H', ⟨by have := HJ4.out; have := HK2.out; first | omega | exact Nat.le_refl _⟩, ⟨by repeat (first | (with_reducible first | exact HB.out | apply below_alloc | apply pw_below_drewN | apply below_drew1) | exact HB.out)⟩⟩
                            · rw [if_neg c23] at H
                              have c23b0 : decide (40 < (a1.size : Int)) = false := decide_eq_false c23
                              have c23b1 : decide (40 < a1.size) = false := decide_eq_false (by omega)
                              clear c23
                              by_cases c24 : (a2.size : Int) > 40
                              · rw [if_pos c24] at H
                                have c24b0 : decide (40 < (a2.size : Int)) = true := decide_eq_true c24
                                have c24b1 : decide (40 < a2.size) = true := decide_eq_true (by omega)
                                clear c24
                                have H' := Aside0.mk H
                                clear H
                                go_wp2
                                go_meet
                                case rel => exact ⟨_, (true), (by first | rfl | (simp; done) | (simp [*]; done)), H', ⟨by have := HJ4.out; have := HK2.out; first | omega | exact Nat.le_refl _⟩, ⟨by repeat (first | (with_reducible first | exact HB.out | apply below_alloc | apply pw_below_drewN | apply below_drew1) | exact HB.out)⟩⟩
                              · rw [if_neg c24] at H
                                have c24b0 : decide (40 < (a2.size : Int)) = false := decide_eq_false c24
                                have c24b1 : decide (40 < a2.size) = false := decide_eq_false (by omega)
                                clear c24
                                by_cases c25 : a0.size + a1.size ≤ 9223372036854775807
                                · rw [if_pos c25] at H
                                  have c25b0 := eq_true c25
                                  have c25b1 : decide (a0.size + a1.size ≤ 9223372036854775807) = true := decide_eq_true c25
                                  try have c25b2 : (9223372036854775807 < a0.size + a1.size) = False := eq_false (Nat.not_lt.2 c25)
                                  by_cases c26 : (a0 ++ a1).size + a2.size ≤ 9223372036854775807
                                  · rw [if_pos c26] at H
                                    have c26b0 := eq_true c26
                                    have c26b1 : decide ((a0 ++ a1).size + a2.size ≤ 9223372036854775807) = true := decide_eq_true c26
                                    try have c26b2 : (9223372036854775807 < (a0 ++ a1).size + a2.size) = False := eq_false (Nat.not_lt.2 c26)
                                    replace H := Option.bind_eq_some_iff.mp H
                                    obtain ⟨t101, A270, H⟩ := H
                                    replace H : (laws_FnMailboxFits.j2 k2 a0 a1 a2 a3 (!t101)) = some r := H
                                    have A27 := Aside0.mk A270
                                    clear A270
                                    have H' := Aside0.mk H
                                    clear H
                                    go_wp2_with (first | (go_at_call 14; (with_reducible refine (spec_Shown9.calls k2 ((a0 ++ a1) ++ a2) t101 _ A27.out).mono ?_); rintro e w' ⟨rfl, ⟨nd, rfl⟩⟩))
                                    go_meet
                                    case rel => exact ⟨_, (!t101), (by first | rfl | (simp; done) | (simp [*]; done)), H', ⟨by have := HJ4.out; have := HK2.out; first | omega | exact Nat.le_refl _⟩, ⟨by repeat (first | (with_reducible first | exact HB.out | apply below_alloc | apply pw_below_drewN | apply below_drew1) | exact HB.out)⟩⟩
                                  · rw [if_neg c26] at H
                                    exact absurd H (by simp)
                                · rw [if_neg c25] at H
                                  exact absurd H (by simp)
              case rest =>
                clear HC16
                try clear c1
                try clear p1
                try clear q1
                try clear hx1
                try clear c2
                try clear p2
                try clear c6
                try clear c6b0
                try clear c6b1
                try clear p6
                try clear c7
                try clear c7b0
                try clear c7b1
                try clear c8
                try clear c9
                try clear c9b0
                try clear c10
                try clear c10b0
                try clear c11
                try clear c11b0
                try clear p12
                try clear q12
                try clear hx12
                try clear c13
                try clear c13b0
                try clear c13b1
                try clear p14
                try clear q14
                try clear hx14
                try clear c15
                try clear c15b0
                try clear c15b1
                try clear c17
                try clear c17b0
                try clear c18
                try clear c18b0
                try clear c19
                try clear c19b0
                try clear c19b1
                try clear c20
                try clear c20b0
                try clear c20b1
                try clear c21
                try clear c21b0
                try clear c22
                try clear c22b0
                try clear c22b1
                try clear c23
                try clear c23b0
                try clear c23b1
                try clear c24
                try clear c24b0
                try clear c24b1
                try clear c25
                try clear c25b0
                try clear c25b1
                try clear c25b2
                try clear c26
                try clear c26b0
                try clear c26b1
                try clear c26b2
                try clear p12
                try clear p14
                try clear p2
                try clear q12
                try clear q14
                obtain ⟨kq, x84_15, rfl, HA, HJ15, HB⟩ := hcut
                cases kq with
                | zero => exact absurd HA.out (by simp [laws_FnMailboxFits.j2])
                | succ kj15 =>
                  have H := HA.out
                  clear HA
                  simp only [laws_FnMailboxFits.j2] at H
                  by_cases c28 : x84_15 = true
                  · subst c28
                    have H1 : (some true) = some r := by rw [if_pos rfl] at H; exact H
                    clear H
                    have H := H1
                    clear H1
                    obtain rfl := Option.some.inj H
                    go_wp2
                    go_ret
                    exact ⟨by first | rfl | (simp [errW_none, errW_some] <;> rfl) | (simp [*, errW_none, errW_some] <;> rfl), by repeat (first | (with_reducible first | exact HB.out | apply below_alloc | apply pw_below_drewN | apply below_drew1) | exact HB.out)⟩
                  · replace c28 := Bool.eq_false_iff.mpr c28
                    subst c28
                    have H1 : ((some (([a3] : List Int) : List Int)).bind fun y102 => ((Own.impl_MailboxFits.f a0 (strOfNums y102) a1 a2).bind fun t105 => ((Own.spec_Fits9.f a0 (strOfNums y102) a1 a2).bind fun t106 => (if (t105 == t106) = true then ((Own.impl_MailboxFits.f (⟨#[97]⟩ : ByteArray) (⟨#[47]⟩ : ByteArray) (⟨#[]⟩ : ByteArray) (⟨#[97]⟩ : ByteArray)).bind fun t107 => (some t107)) else (some false))))) = some r := by rw [if_neg (show ¬ (false = true) by decide)] at H; exact H
                    clear H
                    have H := H1
                    clear H1
                    obtain ⟨y102, hy102⟩ : ∃ y_ : List Int, y_ = (([a3] : List Int)) := ⟨_, rfl⟩
                    replace H : ((Own.impl_MailboxFits.f a0 (strOfNums y102) a1 a2).bind fun t105 => ((Own.spec_Fits9.f a0 (strOfNums y102) a1 a2).bind fun t106 => (if (t105 == t106) = true then ((Own.impl_MailboxFits.f (⟨#[97]⟩ : ByteArray) (⟨#[47]⟩ : ByteArray) (⟨#[]⟩ : ByteArray) (⟨#[97]⟩ : ByteArray)).bind fun t107 => (some t107)) else (some false)))) = some r := by first | (rw [hy102]; with_reducible exact H) | (have H2_ := (Option.bind_some _ _).symm.trans H; rw [hy102]; with_reducible exact H2_) | (have H2_ := (Option.bind_some _ _).symm.trans H; with_reducible exact H2_) | with_reducible exact H | (rw [hy102]; exact H) | exact H
                    have Ny102 := Aside0.mk hy102
                    clear hy102
                    replace H := Option.bind_eq_some_iff.mp H
                    obtain ⟨t105, A290, H⟩ := H
                    replace H : ((Own.spec_Fits9.f a0 (strOfNums y102) a1 a2).bind fun t106 => (if (t105 == t106) = true then ((Own.impl_MailboxFits.f (⟨#[97]⟩ : ByteArray) (⟨#[47]⟩ : ByteArray) (⟨#[]⟩ : ByteArray) (⟨#[97]⟩ : ByteArray)).bind fun t107 => (some t107)) else (some false))) = some r := H
                    have A29 := Aside0.mk A290
                    clear A290
                    replace H := Option.bind_eq_some_iff.mp H
                    obtain ⟨t106, A300, H⟩ := H
                    replace H : (if (t105 == t106) = true then ((Own.impl_MailboxFits.f (⟨#[97]⟩ : ByteArray) (⟨#[47]⟩ : ByteArray) (⟨#[]⟩ : ByteArray) (⟨#[97]⟩ : ByteArray)).bind fun t107 => (some t107)) else (some false)) = some r := H
                    have A30 := Aside0.mk A300
                    clear A300
                    by_cases c31 : (t105 == t106) = true
                    · rw [if_pos c31] at H
                      have c31b0 : (t105 == t106) = true := c31
                      (try (have c31b1 : decide (t105 = t106) = true := by simpa using c31))
                      (try (have c31b2 : (t105 == t106) = true := by simpa using c31))
                      clear c31
                      replace H := Option.bind_eq_some_iff.mp H
                      obtain ⟨t107, A320, H⟩ := H
                      replace H : (some t107) = some r := H
                      have A32 := Aside0.mk A320
                      clear A320
                      obtain rfl := Option.some.inj H
                      go_wp2_with (first | ((with_reducible refine gate_dst (N := 86) rfl ?_); (try (refine gate_guard (by rfl) ?_; dsimp only)); refine Kd.R_lit (Kd.int .u8) _ 5 ?hg (N := 86) ?hd (xs := ([a3] : List Int)) (inner := [.int .u8 a3]) (ok := fun _ => True) (okp := fun _ => True) ?hr ?hp (fun _ hk => hk) trivial (Below.refl _ _) (Nat.le_refl _) (by simp) ?_; (case hd => rfl); (case hg => rfl); (case hr => first | (go_simp; done) | (go_simp; rfl)); (case hp => exact (Reps.one (show Kd.M (Kd.int .u8) _ _ _ a3 [.int .u8 a3] from rfl) (Reps.none _ _))); intro v103 w33 ho34 hb hg_ hnew_; clear hg_ hnew_; (first | rw [← Ny102.out] at ho34 | (simp only [Int.reduceToNat] at ho34; rw [← Ny102.out] at ho34)); have n0_ := Aside0.mk (Kd.R_lower ho34 (below_size (by repeat (first | (with_reducible first | exact HB.out | apply below_alloc | apply pw_below_drewN | apply below_drew1) | exact HB.out)))); have n1_ := Aside0.mk (below_step (by repeat (first | (with_reducible first | exact HB.out | apply below_alloc | apply pw_below_drewN | apply below_drew1) | exact HB.out)) hb); clear HB; have HO104 := n0_; have HB := n1_; clear n0_ n1_; clear hb ho34; have hcv35 := own_string (P := Try.prog) Try.underlying42 Try.underlying5 Try.underlying9 (Kd.own_of_R HO104.out)) | ((with_reducible refine gate_callee (f := 21) rfl ?_); refine goesL_ (some 92) rfl rfl Try.func21 (by kernel_rfl) rfl #[.string a0, .string (strOfNums y102), .string a1, .string a2] rfl (by (try simp only [List.map_toArray, List.map_cons, List.map_nil]); first | done | rfl | (simp only [List.length_drop, List.length_take]; rfl)) ?_; (with_reducible refine (Own.impl_MailboxFits.calls a0 (strOfNums y102) a1 a2 t105 _ A29.out).mono ?_); rintro e w36 ⟨rfl, hb⟩; refine ⟨_, rfl, ?_⟩; have n0_ := Aside0.mk (Kd.R_below (by (with_reducible repeat (first | apply Kd.R_alloc | apply Kd.R_drewN | apply Kd.R_drew)); exact HO104.out) hb); have n1_ := Aside0.mk (below_step (by repeat (first | (with_reducible first | exact HB.out | apply below_alloc | apply pw_below_drewN | apply below_drew1) | exact HB.out)) hb); clear HO104; clear HB; have HO104 := n0_; have HB := n1_; clear n0_ n1_; (try clear hb); (try clear hb2); (try clear hk); (try clear hi)) | ((with_reducible refine gate_callee (f := 22) rfl ?_); refine goesL_ (some 97) rfl rfl Try.func22 (by kernel_rfl) rfl #[.string a0, .string (strOfNums y102), .string a1, .string a2] rfl (by (try simp only [List.map_toArray, List.map_cons, List.map_nil]); first | done | rfl | (simp only [List.length_drop, List.length_take]; rfl)) ?_; (with_reducible refine (Own.spec_Fits9.calls a0 (strOfNums y102) a1 a2 t106 _ A30.out).mono ?_); rintro e w37 ⟨rfl, hb⟩; refine ⟨_, rfl, ?_⟩; have n0_ := Aside0.mk (Kd.R_below (by (with_reducible repeat (first | apply Kd.R_alloc | apply Kd.R_drewN | apply Kd.R_drew)); exact HO104.out) hb); have n1_ := Aside0.mk (below_step (by repeat (first | (with_reducible first | exact HB.out | apply below_alloc | apply pw_below_drewN | apply below_drew1) | exact HB.out)) hb); clear HO104; clear HB; have HO104 := n0_; have HB := n1_; clear n0_ n1_; (try clear hb); (try clear hb2); (try clear hk); (try clear hi)) | (go_at_call 21; (with_reducible refine (Own.impl_MailboxFits.calls (⟨#[97]⟩ : ByteArray) (⟨#[47]⟩ : ByteArray) (⟨#[]⟩ : ByteArray) (⟨#[97]⟩ : ByteArray) t107 _ A32.out).mono ?_); rintro e w38 ⟨rfl, hb⟩; have n0_ := Aside0.mk (Kd.R_below (by (with_reducible repeat (first | apply Kd.R_alloc | apply Kd.R_drewN | apply Kd.R_drew)); exact HO104.out) hb); have n1_ := Aside0.mk (below_step (by repeat (first | (with_reducible first | exact HB.out | apply below_alloc | apply pw_below_drewN | apply below_drew1) | exact HB.out)) hb); clear HO104; clear HB; have HO104 := n0_; have HB := n1_; clear n0_ n1_; (try clear hb); (try clear hb2); (try clear hk); (try clear hi)))
                      go_ret
                      exact ⟨by first | rfl | (simp [errW_none, errW_some] <;> rfl) | (simp [*, errW_none, errW_some] <;> rfl), by repeat (first | (with_reducible first | exact HB.out | apply below_alloc | apply pw_below_drewN | apply below_drew1) | exact HB.out)⟩
                    · rw [if_neg c31] at H
                      have c31b0 : (t105 == t106) = false := by simpa using c31
                      (try (have c31b1 : decide (t105 = t106) = false := by simpa using c31))
                      (try (have c31b2 : (t105 == t106) = false := by simpa using c31))
                      (try (have c31b3 : ¬ (t105 = t106) := by simpa using c31))
                      clear c31
                      obtain rfl := Option.some.inj H
                      go_wp2_with (first | ((with_reducible refine gate_dst (N := 86) rfl ?_); (try (refine gate_guard (by rfl) ?_; dsimp only)); refine Kd.R_lit (Kd.int .u8) _ 5 ?hg (N := 86) ?hd (xs := ([a3] : List Int)) (inner := [.int .u8 a3]) (ok := fun _ => True) (okp := fun _ => True) ?hr ?hp (fun _ hk => hk) trivial (Below.refl _ _) (Nat.le_refl _) (by simp) ?_; (case hd => rfl); (case hg => rfl); (case hr => first | (go_simp; done) | (go_simp; rfl)); (case hp => exact (Reps.one (show Kd.M (Kd.int .u8) _ _ _ a3 [.int .u8 a3] from rfl) (Reps.none _ _))); intro v103 w39 ho40 hb hg_ hnew_; clear hg_ hnew_; (first | rw [← Ny102.out] at ho40 | (simp only [Int.reduceToNat] at ho40; rw [← Ny102.out] at ho40)); have n0_ := Aside0.mk (Kd.R_lower ho40 (below_size (by repeat (first | (with_reducible first | exact HB.out | apply below_alloc | apply pw_below_drewN | apply below_drew1) | exact HB.out)))); have n1_ := Aside0.mk (below_step (by repeat (first | (with_reducible first | exact HB.out | apply below_alloc | apply pw_below_drewN | apply below_drew1) | exact HB.out)) hb); clear HB; have HO104 := n0_; have HB := n1_; clear n0_ n1_; clear hb ho40; have hcv41 := own_string (P := Try.prog) Try.underlying42 Try.underlying5 Try.underlying9 (Kd.own_of_R HO104.out)) | ((with_reducible refine gate_callee (f := 21) rfl ?_); refine goesL_ (some 92) rfl rfl Try.func21 (by kernel_rfl) rfl #[.string a0, .string (strOfNums y102), .string a1, .string a2] rfl (by (try simp only [List.map_toArray, List.map_cons, List.map_nil]); first | done | rfl | (simp only [List.length_drop, List.length_take]; rfl)) ?_; (with_reducible refine (Own.impl_MailboxFits.calls a0 (strOfNums y102) a1 a2 t105 _ A29.out).mono ?_); rintro e w42 ⟨rfl, hb⟩; refine ⟨_, rfl, ?_⟩; have n0_ := Aside0.mk (Kd.R_below (by (with_reducible repeat (first | apply Kd.R_alloc | apply Kd.R_drewN | apply Kd.R_drew)); exact HO104.out) hb); have n1_ := Aside0.mk (below_step (by repeat (first | (with_reducible first | exact HB.out | apply below_alloc | apply pw_below_drewN | apply below_drew1) | exact HB.out)) hb); clear HO104; clear HB; have HO104 := n0_; have HB := n1_; clear n0_ n1_; (try clear hb); (try clear hb2); (try clear hk); (try clear hi)) | ((with_reducible refine gate_callee (f := 22) rfl ?_); refine goesL_ (some 97) rfl rfl Try.func22 (by kernel_rfl) rfl #[.string a0, .string (strOfNums y102), .string a1, .string a2] rfl (by (try simp only [List.map_toArray, List.map_cons, List.map_nil]); first | done | rfl | (simp only [List.length_drop, List.length_take]; rfl)) ?_; (with_reducible refine (Own.spec_Fits9.calls a0 (strOfNums y102) a1 a2 t106 _ A30.out).mono ?_); rintro e w43 ⟨rfl, hb⟩; refine ⟨_, rfl, ?_⟩; have n0_ := Aside0.mk (Kd.R_below (by (with_reducible repeat (first | apply Kd.R_alloc | apply Kd.R_drewN | apply Kd.R_drew)); exact HO104.out) hb); have n1_ := Aside0.mk (below_step (by repeat (first | (with_reducible first | exact HB.out | apply below_alloc | apply pw_below_drewN | apply below_drew1) | exact HB.out)) hb); clear HO104; clear HB; have HO104 := n0_; have HB := n1_; clear n0_ n1_; (try clear hb); (try clear hb2); (try clear hk); (try clear hi)))
                      go_ret
                      exact ⟨by first | rfl | (simp [errW_none, errW_some] <;> rfl) | (simp [*, errW_none, errW_some] <;> rfl), by repeat (first | (with_reducible first | exact HB.out | apply below_alloc | apply pw_below_drewN | apply below_drew1) | exact HB.out)⟩

/-- THE ONE PURE STATEMENT of laws_FnMailboxFits: yours. -/
def laws_FnMailboxFits.Pure : Prop := ∀ (a0 : ByteArray) (a1 : ByteArray) (a2 : ByteArray) (a3 : Int), a0.size ≤ 140737488351232 → a1.size ≤ 140737488351232 → a2.size ≤ 140737488351232 → (Lit.int .u8 a3).wf = true → ∃ k, laws_FnMailboxFits.f k a0 a1 a2 a3 = some true
theorem laws_FnMailboxFits.walk (P : laws_FnMailboxFits.Pure) (a0 : ByteArray) (a1 : ByteArray) (a2 : ByteArray) (a3 : Int) (w : World) (w0 : a0.size ≤ 140737488351232) (w1 : a1.size ≤ 140737488351232) (w2 : a2.size ≤ 140737488351232) (w3 : (Lit.int .u8 a3).wf = true) :
    Calls Try.prog 8 #[.string a0, .string a1, .string a2, .int .u8 a3] w fun e w' => e = .returned (.bool true) ∧ Below w.heap.size w w' := by
  obtain ⟨k, h⟩ := P a0 a1 a2 a3 w0 w1 w2 w3
  refine (laws_FnMailboxFits.calls k a0 a1 a2 a3 true w h).mono ?_
  rintro e w' ⟨rfl, hd⟩
  exact ⟨rfl, hd⟩

end Go.Proofs.Ytnokeaiemiiicaa.PFnMailboxFits
