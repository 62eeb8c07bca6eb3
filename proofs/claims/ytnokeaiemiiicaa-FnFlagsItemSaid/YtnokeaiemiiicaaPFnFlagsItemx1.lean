-- Printed for this claim by a copy of the kit's print that takes hand-proved callees (wip/patch_print.py).
import Derived.Test.YtnokeaiemiiicaaPFnFlagsItemx0
namespace Go.Proofs.Ytnokeaiemiiicaa.PFnFlagsItem
open Go.RowKit Go.Proofs.YtnokeaiemiiicaaW.PrintWords Go.Proofs.YtnokeaiemiiicaaW.PrintLast Go.Proofs.YtnokeaiemiiicaaW.PrintMore
attribute [local go_sem] max2_int min2_int max_two min_two max_three min_three max_four min_four   -- for this text's walks alone
set_option linter.unusedVariables false
set_option linter.unusedSimpArgs false

/-! ### spec_Shown9: function 14 -/
def spec_Shown9.l0 : Nat → ByteArray → Int → Int → Option (Bool)
  | 0, _, _, _ => none
  | k + 1, x0, x5, x6 => if x6 < x5 then (if 0 ≤ x6 then (if x6 < (x0.size : Int) then (if (bt x0 x6) < 32 then (some false) else (if (bt x0 x6) > 126 then (some false) else (spec_Shown9.l0 k x0 x5 (wrap64 (x6 + 1))))) else (none)) else (none)) else (some true)
def spec_Shown9.f (k : Nat) (a0 : ByteArray) : Option (Bool) := spec_Shown9.l0 k a0 (a0.size : Int) 0
theorem spec_Shown9.mono_l : ∀ k, (∀ y0 y1 y2, LeO (spec_Shown9.l0 k y0 y1 y2) (spec_Shown9.l0 (k + 1) y0 y1 y2))
  | 0 => fun _ _ _ r h => by simp [spec_Shown9.l0] at h
  | k + 1 => by
    have ih0 := spec_Shown9.mono_l k
    · intro y0 y1 y2
      unfold spec_Shown9.l0
      repeat' first
      | (with_reducible exact ih0 _ _ _)
      | (with_reducible exact LeO.refl _)
      | (with_reducible exact LeO.none _)
      | (with_reducible refine LeO.ite ?_ ?_)
      | (with_reducible refine LeO.bind ?_ (fun _ => ?_))
      | exact ih0 _ _ _
      | exact LeO.none _
      | refine LeO.ite ?_ ?_
      | refine LeO.bind ?_ (fun _ => ?_)
theorem spec_Shown9.mono : ∀ a0 k, LeO (spec_Shown9.f k a0) (spec_Shown9.f (k + 1) a0) := by
  intro a0 k
  have ih0 := spec_Shown9.mono_l k
  unfold spec_Shown9.f
  repeat' first
      | (with_reducible exact ih0 _ _ _)
      | (with_reducible exact LeO.refl _)
      | (with_reducible exact LeO.none _)
      | (with_reducible refine LeO.ite ?_ ?_)
      | (with_reducible refine LeO.bind ?_ (fun _ => ?_))
      | exact ih0 _ _ _
      | exact LeO.none _
      | refine LeO.ite ?_ ?_
      | refine LeO.bind ?_ (fun _ => ?_)
set_option maxHeartbeats 8000000 in
set_option maxRecDepth 100000 in
theorem spec_Shown9.calls (k : Nat) (a0 : ByteArray) (r : Bool) (w : World) (h : spec_Shown9.f k a0 = some r) :
    Calls Try.prog 14 #[.string a0] w fun e w' => e = .returned (.bool r) ∧ Drawn0 w w' := by
  have H : (spec_Shown9.l0 k a0 (a0.size : Int) 0) = some r := h
  clear h
  have H' := Aside0.mk H
  clear H
  go_enter Try.func14, Try.ntmps14
  go_wp2
  go_loopg [6] k (fun kq v6 w' => ∃ (x6_1 : Int), v6 = .int .i64 x6_1 ∧ Aside0 (spec_Shown9.l0 kq a0 (a0.size : Int) x6_1 = some r) ∧ Aside0 (kq ≤ k) ∧ Drawn0 w w')
  case atStart => exact ⟨(0), (by first | rfl | (simp; done) | (simp [*]; done)), H', ⟨Nat.le_refl _⟩, by repeat (first | exact Drawn0.refl _ | apply Drawn0.step)⟩
  case round =>
    clear H'
    try clear c1
    obtain ⟨x6_1, rfl, HA, HK1, ⟨m1, rfl⟩⟩ := hrel
    cases gk with
    | zero => exact absurd HA.out (by simp [spec_Shown9.l0])
    | succ k1 =>
      have H := HA.out
      clear HA
      simp only [spec_Shown9.l0] at H
      by_cases c2 : x6_1 < (a0.size : Int)
      · rw [if_pos c2] at H
        have c2b0 : decide (x6_1 < (a0.size : Int)) = true := decide_eq_true c2
        clear c2
        by_cases c3 : 0 ≤ x6_1
        · rw [if_pos c3] at H
          have c3b0 : decide (0 ≤ x6_1) = true := decide_eq_true c3
          clear c3
          by_cases c4 : x6_1 < (a0.size : Int)
          · rw [if_pos c4] at H
            have c4b0 : decide (x6_1 < (a0.size : Int)) = true := decide_eq_true c4
            clear c4
            by_cases c6 : (bt a0 x6_1) < 32
            · rw [if_pos c6] at H
              have c6b0 : decide ((bt a0 x6_1) < 32) = true := decide_eq_true c6
              clear c6
              obtain rfl := Option.some.inj H
              have p5 : 0 ≤ (x6_1 : Int) := of_decide_eq_true (by first | (with_reducible assumption) | assumption)
              have q5 : x6_1 < (a0.size : Int) := of_decide_eq_true (by first | (with_reducible assumption) | assumption)
              have hx5 := bt_at a0 x6_1
              replace p5 := eq_true p5
              replace q5 := eq_true q5
              go_wp2
              go_ret
              exact ⟨by first | rfl | (simp; done) | (simp [*]; done), by repeat (first | exact Drawn0.refl _ | apply Drawn0.step)⟩
            · rw [if_neg c6] at H
              have c6b0 : decide ((bt a0 x6_1) < 32) = false := decide_eq_false c6
              clear c6
              by_cases c8 : (bt a0 x6_1) > 126
              · rw [if_pos c8] at H
                have c8b0 : decide (126 < (bt a0 x6_1)) = true := decide_eq_true c8
                clear c8
                obtain rfl := Option.some.inj H
                have p5 : 0 ≤ (x6_1 : Int) := of_decide_eq_true (by first | (with_reducible assumption) | assumption)
                have q5 : x6_1 < (a0.size : Int) := of_decide_eq_true (by first | (with_reducible assumption) | assumption)
                have hx5 := bt_at a0 x6_1
                replace p5 := eq_true p5
                replace q5 := eq_true q5
                have p7 : 0 ≤ (x6_1 : Int) := of_decide_eq_true (by first | (with_reducible assumption) | assumption)
                have q7 : x6_1 < (a0.size : Int) := of_decide_eq_true (by first | (with_reducible assumption) | assumption)
                have hx7 := bt_at a0 x6_1
                replace p7 := eq_true p7
                replace q7 := eq_true q7
                go_wp2
                go_ret
                exact ⟨by first | rfl | (simp; done) | (simp [*]; done), by repeat (first | exact Drawn0.refl _ | apply Drawn0.step)⟩
              · rw [if_neg c8] at H
                have c8b0 : decide (126 < (bt a0 x6_1)) = false := decide_eq_false c8
                clear c8
                have H' := Aside0.mk H
                clear H
                have p5 : 0 ≤ (x6_1 : Int) := of_decide_eq_true (by first | (with_reducible assumption) | assumption)
                have q5 : x6_1 < (a0.size : Int) := of_decide_eq_true (by first | (with_reducible assumption) | assumption)
                have hx5 := bt_at a0 x6_1
                replace p5 := eq_true p5
                replace q5 := eq_true q5
                have p7 : 0 ≤ (x6_1 : Int) := of_decide_eq_true (by first | (with_reducible assumption) | assumption)
                have q7 : x6_1 < (a0.size : Int) := of_decide_eq_true (by first | (with_reducible assumption) | assumption)
                have hx7 := bt_at a0 x6_1
                replace p7 := eq_true p7
                replace q7 := eq_true q7
                go_wp2
                go_roundg k1
                case measure => have := HK1.out; omega
                case rel => exact ⟨(wrap64 (x6_1 + 1)), (by first | rfl | (simp; done) | (simp [*]; done)), H', ⟨by have := HK1.out; omega⟩, by repeat (first | exact Drawn0.refl _ | apply Drawn0.step)⟩
          · rw [if_neg c4] at H
            exact absurd H (by simp)
        · rw [if_neg c3] at H
          exact absurd H (by simp)
      · rw [if_neg c2] at H
        have c2b0 : decide (x6_1 < (a0.size : Int)) = false := decide_eq_false c2
        clear c2
        obtain rfl := Option.some.inj H
        go_wp2
        go_ret
        exact ⟨by first | rfl | (simp; done) | (simp [*]; done), by repeat (first | exact Drawn0.refl _ | apply Drawn0.step)⟩

/-! ### goimap_FormatFlagsOp: function 32 -/
def goimap_FormatFlagsOp.f (a0 : ByteArray) (a1 : Bool) : Option (ByteArray) := if a1 = true then (if a0.size + 7 ≤ 9223372036854775807 then (some (a0 ++ (⟨#[46, 83, 73, 76, 69, 78, 84]⟩ : ByteArray))) else (none)) else (some a0)
set_option maxHeartbeats 8000000 in
set_option maxRecDepth 100000 in
theorem goimap_FormatFlagsOp.calls (a0 : ByteArray) (a1 : Bool) (r : ByteArray) (w : World) (h : goimap_FormatFlagsOp.f a0 a1 = some r) :
    Calls Try.prog 32 #[.string a0, .bool a1] w fun e w' => e = .returned (.string r) ∧ Drawn0 w w' := by
  have H : (if a1 = true then (if a0.size + 7 ≤ 9223372036854775807 then (some (a0 ++ (⟨#[46, 83, 73, 76, 69, 78, 84]⟩ : ByteArray))) else (none)) else (some a0)) = some r := h
  clear h
  by_cases c3 : a1 = true
  · subst c3
    have H1 : (if a0.size + 7 ≤ 9223372036854775807 then (some (a0 ++ (⟨#[46, 83, 73, 76, 69, 78, 84]⟩ : ByteArray))) else (none)) = some r := by rw [if_pos rfl] at H; exact H
    clear H
    have H := H1
    clear H1
    by_cases c4 : a0.size + 7 ≤ 9223372036854775807
    · rw [if_pos c4] at H
      have c4b0 := eq_true c4
      have c4b1 : decide (a0.size + 7 ≤ 9223372036854775807) = true := decide_eq_true c4
      try have c4b2 : (9223372036854775807 < a0.size + 7) = False := eq_false (Nat.not_lt.2 c4)
      obtain rfl := Option.some.inj H
      go_enter Try.func32, Try.ntmps32
      go_wp2
      go_ret
      exact ⟨by first | rfl | (simp; done) | (simp [*]; done), by repeat (first | exact Drawn0.refl _ | apply Drawn0.step)⟩
    · rw [if_neg c4] at H
      exact absurd H (by simp)
  · replace c3 := Bool.eq_false_iff.mpr c3
    subst c3
    have H1 : (some a0) = some r := by rw [if_neg (show ¬ (false = true) by decide)] at H; exact H
    clear H
    have H := H1
    clear H1
    obtain rfl := Option.some.inj H
    go_enter Try.func32, Try.ntmps32
    go_wp2
    go_ret
    exact ⟨by first | rfl | (simp; done) | (simp [*]; done), by repeat (first | exact Drawn0.refl _ | apply Drawn0.step)⟩

/-! ### impl_FlagsItem: function 17 -/
def impl_FlagsItem.f (a0 : ByteArray) (a1 : Bool) : Option (ByteArray) := (goimap_FormatFlagsOp.f a0 a1).bind fun t101 => (some t101)
set_option maxHeartbeats 8000000 in
set_option maxRecDepth 100000 in
theorem impl_FlagsItem.calls (a0 : ByteArray) (a1 : Bool) (r : ByteArray) (w : World) (h : impl_FlagsItem.f a0 a1 = some r) :
    Calls Try.prog 17 #[.string a0, .bool a1] w fun e w' => e = .returned (.string r) ∧ Drawn0 w w' := by
  have H : ((goimap_FormatFlagsOp.f a0 a1).bind fun t101 => (some t101)) = some r := h
  clear h
  replace H := Option.bind_eq_some_iff.mp H
  obtain ⟨t101, A30, H⟩ := H
  replace H : (some t101) = some r := H
  have A3 := Aside0.mk A30
  clear A30
  obtain rfl := Option.some.inj H
  go_enter Try.func17, Try.ntmps17
  go_wp2_with (first | ((with_reducible refine gate_callee (f := 32) rfl ?_); refine goesL_ (some 7) rfl rfl Try.func32 (by kernel_rfl) rfl #[.string a0, .bool a1] rfl (by (try simp only [List.map_toArray, List.map_cons, List.map_nil]); first | done | rfl | (simp only [List.length_drop, List.length_take]; rfl)) ?_; (with_reducible refine (goimap_FormatFlagsOp.calls a0 a1 t101 _ A3.out).mono ?_); rintro e w' ⟨rfl, ⟨nd, rfl⟩⟩; refine ⟨_, rfl, ?_⟩))
  go_ret
  exact ⟨by first | rfl | (simp; done) | (simp [*]; done), by repeat (first | exact Drawn0.refl _ | apply Drawn0.step)⟩

/-! ### laws_FnFlagsItem: function 6 -/
mutual
def laws_FnFlagsItem.j0 : Nat → ByteArray → Bool → Option (Bool)
  | 0, _, _ => none
  | k + 1, x0, x22 => if x22 = true then (some true) else (if (wrap64 ((x0.size : Int) - 7)) > 0 then (if 0 ≤ (wrap64 ((x0.size : Int) - 7)) then (if (wrap64 ((x0.size : Int) - 7)) ≤ (x0.size : Int) then (laws_FnFlagsItem.j1 k x0 x0 false (wrap64 ((x0.size : Int) - 7)) ((x0.extract ((wrap64 ((x0.size : Int) - 7)) : Int).toNat x0.size).toList == ([46, 83, 73, 76, 69, 78, 84] : List UInt8))) else (none)) else (none)) else (laws_FnFlagsItem.j1 k x0 x0 false (wrap64 ((x0.size : Int) - 7)) false))
def laws_FnFlagsItem.j1 : Nat → ByteArray → ByteArray → Bool → Int → Bool → Option (Bool)
  | 0, _, _, _, _, _ => none
  | k + 1, x0, x3, x4, x5, x34 => if x34 = true then (if 0 ≤ x5 then (if x5 ≤ (x0.size : Int) then (laws_FnFlagsItem.j2 k x0 (x0.extract 0 (x5 : Int).toNat) true) else (none)) else (none)) else (laws_FnFlagsItem.j2 k x0 x3 x4)
def laws_FnFlagsItem.j2 : Nat → ByteArray → ByteArray → Bool → Option (Bool)
  | 0, _, _, _ => none
  | k + 1, x0, x3, x4 => (Own.impl_FlagsOp.f x0).bind fun bt103 => (if x3.toList = ([70, 76, 65, 71, 83] : List UInt8) then (laws_FnFlagsItem.j3 k x0 x3 x4 bt103.1 bt103.2.1 bt103.2.2 false) else (if x3.toList = ([43, 70, 76, 65, 71, 83] : List UInt8) then (laws_FnFlagsItem.j3 k x0 x3 x4 bt103.1 bt103.2.1 bt103.2.2 false) else (laws_FnFlagsItem.j3 k x0 x3 x4 bt103.1 bt103.2.1 bt103.2.2 (x3.toList != ([45, 70, 76, 65, 71, 83] : List UInt8)))))
def laws_FnFlagsItem.j3 : Nat → ByteArray → ByteArray → Bool → ByteArray → Bool → Bool → Bool → Option (Bool)
  | 0, _, _, _, _, _, _, _ => none
  | k + 1, x0, x3, x4, x6, x7, x8, x53 => if x53 = true then ((Own.impl_FlagsOp.f (⟨#[70, 76, 65, 71, 83]⟩ : ByteArray)).bind fun bt106 => ((Own.spec_Upper9.f x0).bind fun t109 => (if t109.toList = x0.toList then (if bt106.2.2 = true then (some (!x8)) else (some false)) else (some true)))) else (if x8 = true then (if x6.toList = x3.toList then (if (x7 == x4) = true then ((impl_FlagsItem.f x6 x7).bind fun t110 => (some (t110.toList == x0.toList))) else (some false)) else (some false)) else (some false))
end
def laws_FnFlagsItem.f (k : Nat) (a0 : ByteArray) : Option (Bool) := if (a0.size : Int) > 2147483647 then (some true) else (if (a0.size : Int) > 40 then (laws_FnFlagsItem.j0 k a0 true) else ((spec_Shown9.f k a0).bind fun t102 => (laws_FnFlagsItem.j0 k a0 (!t102))))
theorem laws_FnFlagsItem.mono_l : ∀ k, (∀ y0 y1, LeO (laws_FnFlagsItem.j0 k y0 y1) (laws_FnFlagsItem.j0 (k + 1) y0 y1)) ∧ (∀ y0 y1 y2 y3 y4, LeO (laws_FnFlagsItem.j1 k y0 y1 y2 y3 y4) (laws_FnFlagsItem.j1 (k + 1) y0 y1 y2 y3 y4)) ∧ (∀ y0 y1 y2, LeO (laws_FnFlagsItem.j2 k y0 y1 y2) (laws_FnFlagsItem.j2 (k + 1) y0 y1 y2)) ∧ (∀ y0 y1 y2 y3 y4 y5 y6, LeO (laws_FnFlagsItem.j3 k y0 y1 y2 y3 y4 y5 y6) (laws_FnFlagsItem.j3 (k + 1) y0 y1 y2 y3 y4 y5 y6))
  | 0 => ⟨fun _ _ r h => by simp [laws_FnFlagsItem.j0] at h, fun _ _ _ _ _ r h => by simp [laws_FnFlagsItem.j1] at h, fun _ _ _ r h => by simp [laws_FnFlagsItem.j2] at h, fun _ _ _ _ _ _ _ r h => by simp [laws_FnFlagsItem.j3] at h⟩
  | k + 1 => by
    obtain ⟨ih0, ih1, ih2, ih3⟩ := laws_FnFlagsItem.mono_l k
    refine ⟨?_, ?_, ?_, ?_⟩
    · intro y0 y1
      unfold laws_FnFlagsItem.j0
      repeat' first
      | (with_reducible exact ih0 _ _)
      | (with_reducible exact ih1 _ _ _ _ _)
      | (with_reducible exact ih2 _ _ _)
      | (with_reducible exact ih3 _ _ _ _ _ _ _)
      | (with_reducible exact spec_Shown9.mono _ _)
      | (with_reducible exact LeO.refl _)
      | (with_reducible exact LeO.none _)
      | (with_reducible refine LeO.ite ?_ ?_)
      | (with_reducible refine LeO.bind ?_ (fun _ => ?_))
      | exact ih0 _ _
      | exact ih1 _ _ _ _ _
      | exact ih2 _ _ _
      | exact ih3 _ _ _ _ _ _ _
      | exact spec_Shown9.mono _ _
      | exact LeO.none _
      | refine LeO.ite ?_ ?_
      | refine LeO.bind ?_ (fun _ => ?_)
    · intro y0 y1 y2 y3 y4
      unfold laws_FnFlagsItem.j1
      repeat' first
      | (with_reducible exact ih0 _ _)
      | (with_reducible exact ih1 _ _ _ _ _)
      | (with_reducible exact ih2 _ _ _)
      | (with_reducible exact ih3 _ _ _ _ _ _ _)
      | (with_reducible exact spec_Shown9.mono _ _)
      | (with_reducible exact LeO.refl _)
      | (with_reducible exact LeO.none _)
      | (with_reducible refine LeO.ite ?_ ?_)
      | (with_reducible refine LeO.bind ?_ (fun _ => ?_))
      | exact ih0 _ _
      | exact ih1 _ _ _ _ _
      | exact ih2 _ _ _
      | exact ih3 _ _ _ _ _ _ _
      | exact spec_Shown9.mono _ _
      | exact LeO.none _
      | refine LeO.ite ?_ ?_
      | refine LeO.bind ?_ (fun _ => ?_)
    · intro y0 y1 y2
      unfold laws_FnFlagsItem.j2
      repeat' first
      | (with_reducible exact ih0 _ _)
      | (with_reducible exact ih1 _ _ _ _ _)
      | (with_reducible exact ih2 _ _ _)
      | (with_reducible exact ih3 _ _ _ _ _ _ _)
      | (with_reducible exact spec_Shown9.mono _ _)
      | (with_reducible exact LeO.refl _)
      | (with_reducible exact LeO.none _)
      | (with_reducible refine LeO.ite ?_ ?_)
      | (with_reducible refine LeO.bind ?_ (fun _ => ?_))
      | exact ih0 _ _
      | exact ih1 _ _ _ _ _
      | exact ih2 _ _ _
      | exact ih3 _ _ _ _ _ _ _
      | exact spec_Shown9.mono _ _
      | exact LeO.none _
      | refine LeO.ite ?_ ?_
      | refine LeO.bind ?_ (fun _ => ?_)
    · intro y0 y1 y2 y3 y4 y5 y6
      unfold laws_FnFlagsItem.j3
      repeat' first
      | (with_reducible exact ih0 _ _)
      | (with_reducible exact ih1 _ _ _ _ _)
      | (with_reducible exact ih2 _ _ _)
      | (with_reducible exact ih3 _ _ _ _ _ _ _)
      | (with_reducible exact spec_Shown9.mono _ _)
      | (with_reducible exact LeO.refl _)
      | (with_reducible exact LeO.none _)
      | (with_reducible refine LeO.ite ?_ ?_)
      | (with_reducible refine LeO.bind ?_ (fun _ => ?_))
      | exact ih0 _ _
      | exact ih1 _ _ _ _ _
      | exact ih2 _ _ _
      | exact ih3 _ _ _ _ _ _ _
      | exact spec_Shown9.mono _ _
      | exact LeO.none _
      | refine LeO.ite ?_ ?_
      | refine LeO.bind ?_ (fun _ => ?_)
theorem laws_FnFlagsItem.mono : ∀ a0 k, LeO (laws_FnFlagsItem.f k a0) (laws_FnFlagsItem.f (k + 1) a0) := by
  intro a0 k
  obtain ⟨ih0, ih1, ih2, ih3⟩ := laws_FnFlagsItem.mono_l k
  unfold laws_FnFlagsItem.f
  repeat' first
      | (with_reducible exact ih0 _ _)
      | (with_reducible exact ih1 _ _ _ _ _)
      | (with_reducible exact ih2 _ _ _)
      | (with_reducible exact ih3 _ _ _ _ _ _ _)
      | (with_reducible exact spec_Shown9.mono _ _)
      | (with_reducible exact LeO.refl _)
      | (with_reducible exact LeO.none _)
      | (with_reducible refine LeO.ite ?_ ?_)
      | (with_reducible refine LeO.bind ?_ (fun _ => ?_))
      | exact ih0 _ _
      | exact ih1 _ _ _ _ _
      | exact ih2 _ _ _
      | exact ih3 _ _ _ _ _ _ _
      | exact spec_Shown9.mono _ _
      | exact LeO.none _
      | refine LeO.ite ?_ ?_
      | refine LeO.bind ?_ (fun _ => ?_)
set_option maxHeartbeats 8000000 in
set_option maxRecDepth 100000 in
theorem laws_FnFlagsItem.calls (k : Nat) (a0 : ByteArray) (r : Bool) (w : World) (h : laws_FnFlagsItem.f k a0 = some r) :
    Calls Try.prog 6 #[.string a0] w fun e w' => e = .returned (.bool r) ∧ Below w.heap.size w w' := by
  have HB := Aside0.mk (Below.refl w.heap.size w)
  have H : (if (a0.size : Int) > 2147483647 then (some true) else (if (a0.size : Int) > 40 then (laws_FnFlagsItem.j0 k a0 true) else ((spec_Shown9.f k a0).bind fun t102 => (laws_FnFlagsItem.j0 k a0 (!t102))))) = some r := h
  clear h
  by_cases c2 : (a0.size : Int) > 2147483647
  · rw [if_pos c2] at H
    have c2b0 : decide (2147483647 < (a0.size : Int)) = true := decide_eq_true c2
    have c2b1 : decide (2147483647 < a0.size) = true := decide_eq_true (by omega)
    clear c2
    obtain rfl := Option.some.inj H
    go_enter Try.func6, Try.ntmps6
    go_wp2
    go_ret
    exact ⟨by first | rfl | (simp [errW_none, errW_some] <;> rfl) | (simp [*, errW_none, errW_some] <;> rfl), by repeat (first | (with_reducible first | exact HB.out | apply below_alloc | apply pw_below_drewN | apply below_drew1) | exact HB.out)⟩
  · rw [if_neg c2] at H
    have c2b0 : decide (2147483647 < (a0.size : Int)) = false := decide_eq_false c2
    have c2b1 : decide (2147483647 < a0.size) = false := decide_eq_false (by omega)
    clear c2
    have HC3 := Aside0.mk H
    clear H
    go_enter Try.func6, Try.ntmps6
    go_upto_region 3 with (fail)
    go_cut [22] (fun v22 wc => ∃ (kq : Nat) (x22_2 : Bool), v22 = .bool x22_2 ∧ Aside0 (laws_FnFlagsItem.j0 kq a0 x22_2 = some r) ∧ Aside0 (kq ≤ k) ∧ Aside0 (Below w.heap.size w wc))
    case first =>
      have H := HC3.out
      clear HC3
      by_cases c4 : (a0.size : Int) > 40
      · rw [if_pos c4] at H
        have c4b0 : decide (40 < (a0.size : Int)) = true := decide_eq_true c4
        have c4b1 : decide (40 < a0.size) = true := decide_eq_true (by omega)
        clear c4
        (first | rw [c4b0] | (simp only [i64_w, i32_w]; rw [c4b0]) | skip)
        have H' := Aside0.mk H
        clear H
        go_wp2
        go_meet
        case rel => exact ⟨_, (true), (by first | rfl | (simp; done) | (simp [*]; done)), H', ⟨by first | omega | exact Nat.le_refl _⟩, ⟨by repeat (first | (with_reducible first | exact HB.out | apply below_alloc | apply pw_below_drewN | apply below_drew1) | exact HB.out)⟩⟩
      · rw [if_neg c4] at H
        have c4b0 : decide (40 < (a0.size : Int)) = false := decide_eq_false c4
        have c4b1 : decide (40 < a0.size) = false := decide_eq_false (by omega)
        clear c4
        (first | rw [c4b0] | (simp only [i64_w, i32_w]; rw [c4b0]) | skip)
        replace H := Option.bind_eq_some_iff.mp H
        obtain ⟨t102, A50, H⟩ := H
        replace H : (laws_FnFlagsItem.j0 k a0 (!t102)) = some r := H
        have A5 := Aside0.mk A50
        clear A50
        have H' := Aside0.mk H
        clear H
        go_wp2_with (first | (go_at_call 14; (with_reducible refine (spec_Shown9.calls k a0 t102 _ A5.out).mono ?_); rintro e w' ⟨rfl, ⟨nd, rfl⟩⟩))
        go_meet
        case rel => exact ⟨_, (!t102), (by first | rfl | (simp; done) | (simp [*]; done)), H', ⟨by first | omega | exact Nat.le_refl _⟩, ⟨by repeat (first | (with_reducible first | exact HB.out | apply below_alloc | apply pw_below_drewN | apply below_drew1) | exact HB.out)⟩⟩
    case rest =>
      clear HC3
      try clear c2
      try clear c2b0
      try clear c2b1
      try clear p2
      try clear c4
      try clear c4b0
      try clear c4b1
      obtain ⟨kq, x22_2, rfl, HA, HJ2, HB⟩ := hcut
      cases kq with
      | zero => exact absurd HA.out (by simp [laws_FnFlagsItem.j0])
      | succ kj2 =>
        have H := HA.out
        clear HA
        simp only [laws_FnFlagsItem.j0] at H
        by_cases c6 : x22_2 = true
        · subst c6
          have H1 : (some true) = some r := by rw [if_pos rfl] at H; exact H
          clear H
          have H := H1
          clear H1
          obtain rfl := Option.some.inj H
          go_wp2
          go_ret
          exact ⟨by first | rfl | (simp [errW_none, errW_some] <;> rfl) | (simp [*, errW_none, errW_some] <;> rfl), by repeat (first | (with_reducible first | exact HB.out | apply below_alloc | apply pw_below_drewN | apply below_drew1) | exact HB.out)⟩
        · replace c6 := Bool.eq_false_iff.mpr c6
          subst c6
          have H1 : (if (wrap64 ((a0.size : Int) - 7)) > 0 then (if 0 ≤ (wrap64 ((a0.size : Int) - 7)) then (if (wrap64 ((a0.size : Int) - 7)) ≤ (a0.size : Int) then (laws_FnFlagsItem.j1 kj2 a0 a0 false (wrap64 ((a0.size : Int) - 7)) ((a0.extract ((wrap64 ((a0.size : Int) - 7)) : Int).toNat a0.size).toList == ([46, 83, 73, 76, 69, 78, 84] : List UInt8))) else (none)) else (none)) else (laws_FnFlagsItem.j1 kj2 a0 a0 false (wrap64 ((a0.size : Int) - 7)) false)) = some r := by rw [if_neg (show ¬ (false = true) by decide)] at H; exact H
          clear H
          have H := H1
          clear H1
          have HC7 := Aside0.mk H
          clear H
          go_upto_region 7 with (fail)
          go_cut [34] (fun v34 wc => ∃ (kq : Nat) (x34_6 : Bool), v34 = .bool x34_6 ∧ Aside0 (laws_FnFlagsItem.j1 kq a0 a0 false (wrap64 ((a0.size : Int) - 7)) x34_6 = some r) ∧ Aside0 (kq ≤ kj2) ∧ Aside0 (Below w.heap.size w wc))
          case first =>
            have H := HC7.out
            clear HC7
            by_cases c8 : (wrap64 ((a0.size : Int) - 7)) > 0
            · rw [if_pos c8] at H
              have c8b0 : decide (0 < (wrap64 ((a0.size : Int) - 7))) = true := decide_eq_true c8
              clear c8
              (first | rw [c8b0] | (simp only [i64_w, i32_w]; rw [c8b0]) | skip)
              obtain ⟨ji9, hji9⟩ : ∃ j_ : Int, (wrap64 ((a0.size : Int) - 7)) = j_ := ⟨_, rfl⟩
              replace H : (if 0 ≤ (ji9) then (if (ji9) ≤ (a0.size : Int) then (laws_FnFlagsItem.j1 kj2 a0 a0 false ji9 ((a0.extract ((ji9) : Int).toNat a0.size).toList == ([46, 83, 73, 76, 69, 78, 84] : List UInt8))) else (none)) else (none)) = some r := by first | (rw [hji9] at H; exact H) | (simp only [hji9] at H ⊢; exact H)
              (try rw [hji9] at c8b0)
              have hji9w : (IntKind.i64.wrap ((a0.size : Int) - 7)) = ji9 := (i64_w _).trans hji9
              by_cases c10 : 0 ≤ (ji9)
              · rw [if_pos c10] at H
                have c10b0 := eq_true c10
                have c10b1 : decide (0 ≤ (ji9)) = true := decide_eq_true c10
                clear c10
                by_cases c11 : (ji9) ≤ (a0.size : Int)
                · rw [if_pos c11] at H
                  have c11b0 := eq_true c11
                  have c11b1 : decide ((ji9) ≤ (a0.size : Int)) = true := decide_eq_true c11
                  clear c11
                  have H' := Aside0.mk H
                  clear H
                  go_wp2
                  go_meet
                  case rel => exact ⟨_, (((a0.extract ((ji9) : Int).toNat a0.size).toList == ([46, 83, 73, 76, 69, 78, 84] : List UInt8))), (by first | rfl | (simp; done) | (simp only [← hji9] <;> (first | rfl | simp)) | (simp [*]; done)), (by first | exact H' | (rw [hji9]; exact H') | (simp only [hji9]; exact H')), ⟨by have := HJ2.out; first | omega | exact Nat.le_refl _⟩, ⟨by repeat (first | (with_reducible first | exact HB.out | apply below_alloc | apply pw_below_drewN | apply below_drew1) | exact HB.out)⟩⟩
                · rw [if_neg c11] at H
                  exact absurd H (by simp)
              · rw [if_neg c10] at H
                exact absurd H (by simp)
            · rw [if_neg c8] at H
              have c8b0 : decide (0 < (wrap64 ((a0.size : Int) - 7))) = false := decide_eq_false c8
              clear c8
              (first | rw [c8b0] | (simp only [i64_w, i32_w]; rw [c8b0]) | skip)
              have H' := Aside0.mk H
              clear H
              go_wp2
              go_meet
              case rel => exact ⟨_, (false), (by first | rfl | (simp; done) | (simp [*]; done)), H', ⟨by have := HJ2.out; first | omega | exact Nat.le_refl _⟩, ⟨by repeat (first | (with_reducible first | exact HB.out | apply below_alloc | apply pw_below_drewN | apply below_drew1) | exact HB.out)⟩⟩
          case rest =>
            clear HC7
            try clear c1
            try clear c2
            try clear c2b0
            try clear c2b1
            try clear p2
            try clear c4
            try clear c4b0
            try clear c4b1
            try clear c6
            try clear p6
            try clear c8
            try clear c8b0
            try clear c10
            try clear c10b0
            try clear c10b1
            try clear c11
            try clear c11b0
            try clear c11b1
            try clear p2
            obtain ⟨kq, x34_6, rfl, HA, HJ6, HB⟩ := hcut
            cases kq with
            | zero => exact absurd HA.out (by simp [laws_FnFlagsItem.j1])
            | succ kj6 =>
              have H := HA.out
              clear HA
              simp only [laws_FnFlagsItem.j1] at H
              have HC12 := Aside0.mk H
              clear H
              go_upto_if 34 with (fail)
              go_cut [3, 4] (fun v3 v4 wc => ∃ (kq : Nat) (x3_11 : ByteArray) (x4_11 : Bool), v3 = .string x3_11 ∧ v4 = .bool x4_11 ∧ Aside0 (laws_FnFlagsItem.j2 kq a0 x3_11 x4_11 = some r) ∧ Aside0 (kq ≤ kj6) ∧ Aside0 (Below w.heap.size w wc))
              case first =>
                have H := HC12.out
                clear HC12
                by_cases c13 : x34_6 = true
                · subst c13
                  have H1 : (if 0 ≤ (wrap64 ((a0.size : Int) - 7)) then (if (wrap64 ((a0.size : Int) - 7)) ≤ (a0.size : Int) then (laws_FnFlagsItem.j2 kj6 a0 (a0.extract 0 ((wrap64 ((a0.size : Int) - 7)) : Int).toNat) true) else (none)) else (none)) = some r := by rw [if_pos rfl] at H; exact H
                  clear H
                  have H := H1
                  clear H1
                  obtain ⟨ji14, hji14⟩ : ∃ j_ : Int, (wrap64 ((a0.size : Int) - 7)) = j_ := ⟨_, rfl⟩
                  replace H : (if 0 ≤ (ji14) then (if (ji14) ≤ (a0.size : Int) then (laws_FnFlagsItem.j2 kj6 a0 (a0.extract 0 ((ji14) : Int).toNat) true) else (none)) else (none)) = some r := by first | (rw [hji14] at H; exact H) | (simp only [hji14] at H ⊢; exact H)
                  have hji14w : (IntKind.i64.wrap ((a0.size : Int) - 7)) = ji14 := (i64_w _).trans hji14
                  by_cases c15 : 0 ≤ (ji14)
                  · rw [if_pos c15] at H
                    have c15b0 := eq_true c15
                    have c15b1 : decide (0 ≤ (ji14)) = true := decide_eq_true c15
                    clear c15
                    by_cases c16 : (ji14) ≤ (a0.size : Int)
                    · rw [if_pos c16] at H
                      have c16b0 := eq_true c16
                      have c16b1 : decide ((ji14) ≤ (a0.size : Int)) = true := decide_eq_true c16
                      clear c16
                      have H' := Aside0.mk H
                      clear H
                      go_wp2
                      go_meet
                      case rel => exact ⟨_, (a0.extract 0 ((ji14) : Int).toNat), (true), (by first | rfl | (simp; done) | (simp only [← hji14] <;> (first | rfl | simp)) | (simp [*]; done)), (by first | rfl | (simp; done) | (simp [*]; done)), (by first | exact H' | (rw [hji14]; exact H') | (simp only [hji14]; exact H')), ⟨by have := HJ2.out; have := HJ6.out; first | omega | exact Nat.le_refl _⟩, ⟨by repeat (first | (with_reducible first | exact HB.out | apply below_alloc | apply pw_below_drewN | apply below_drew1) | exact HB.out)⟩⟩
                    · rw [if_neg c16] at H
                      exact absurd H (by simp)
                  · rw [if_neg c15] at H
                    exact absurd H (by simp)
                · replace c13 := Bool.eq_false_iff.mpr c13
                  subst c13
                  have H1 : (laws_FnFlagsItem.j2 kj6 a0 a0 false) = some r := by rw [if_neg (show ¬ (false = true) by decide)] at H; exact H
                  clear H
                  have H := H1
                  clear H1
                  have H' := Aside0.mk H
                  clear H
                  go_wp2
                  go_meet
                  case rel => exact ⟨_, (a0), (false), (by first | rfl | (simp; done) | (simp [*]; done)), (by first | rfl | (simp; done) | (simp [*]; done)), H', ⟨by have := HJ2.out; have := HJ6.out; first | omega | exact Nat.le_refl _⟩, ⟨by repeat (first | (with_reducible first | exact HB.out | apply below_alloc | apply pw_below_drewN | apply below_drew1) | exact HB.out)⟩⟩
              case rest =>
                clear HC12
                try clear c1
                try clear c2
                try clear c2b0
                try clear c2b1
                try clear p2
                try clear c4
                try clear c4b0
                try clear c4b1
                try clear c6
                try clear p6
                try clear c8
                try clear c8b0
                try clear c10
                try clear c10b0
                try clear c10b1
                try clear c11
                try clear c11b0
                try clear c11b1
                try clear c13
                try clear c15
                try clear c15b0
                try clear c15b1
                try clear c16
                try clear c16b0
                try clear c16b1
                try clear p2
                try clear p6
                obtain ⟨kq, x3_11, x4_11, rfl, rfl, HA, HJ11, HB⟩ := hcut
                cases kq with
                | zero => exact absurd HA.out (by simp [laws_FnFlagsItem.j2])
                | succ kj11 =>
                  have H := HA.out
                  clear HA
                  simp only [laws_FnFlagsItem.j2] at H
                  replace H := Option.bind_eq_some_iff.mp H
                  obtain ⟨⟨t103, t104, t105⟩, A170, H⟩ := H
                  replace H : (if x3_11.toList = ([70, 76, 65, 71, 83] : List UInt8) then (laws_FnFlagsItem.j3 kj11 a0 x3_11 x4_11 t103 t104 t105 false) else (if x3_11.toList = ([43, 70, 76, 65, 71, 83] : List UInt8) then (laws_FnFlagsItem.j3 kj11 a0 x3_11 x4_11 t103 t104 t105 false) else (laws_FnFlagsItem.j3 kj11 a0 x3_11 x4_11 t103 t104 t105 (x3_11.toList != ([45, 70, 76, 65, 71, 83] : List UInt8))))) = some r := H
                  have A17 := Aside0.mk A170
                  clear A170
                  have HC18 := Aside0.mk H
                  clear H
                  go_upto_region 10 with (first | ((with_reducible refine gate_callee (f := 15) rfl ?_); refine goesL_ (some 40) rfl rfl Try.func15 (by kernel_rfl) rfl #[.string a0] rfl (by (try simp only [List.map_toArray, List.map_cons, List.map_nil]); first | done | rfl | (simp only [List.length_drop, List.length_take]; rfl)) ?_; (with_reducible refine (Own.impl_FlagsOp.calls a0 t103 t104 t105 _ A17.out).mono ?_); rintro e w19 ⟨rfl, hb⟩; refine ⟨_, rfl, ?_⟩; have n0_ := Aside0.mk (below_step (by repeat (first | (with_reducible first | exact HB.out | apply below_alloc | apply pw_below_drewN | apply below_drew1) | exact HB.out)) hb); clear HB; have HB := n0_; clear n0_; (try clear hb); (try clear hb2); (try clear hk); (try clear hi)))
                  (try simp only [Act.put, List.setIfInBounds_toArray, List.set_cons_zero, List.set_cons_succ])
                  go_cut [53] (fun v53 wc => ∃ (kq : Nat) (x53_17 : Bool), v53 = .bool x53_17 ∧ Aside0 (laws_FnFlagsItem.j3 kq a0 x3_11 x4_11 t103 t104 t105 x53_17 = some r) ∧ Aside0 (kq ≤ kj11) ∧ Aside0 (Below w.heap.size w wc))
                  case first =>
                    have H := HC18.out
                    clear HC18
                    by_cases c20 : x3_11.toList = ([70, 76, 65, 71, 83] : List UInt8)
                    · rw [if_pos c20] at H
                      have c20b0 : (x3_11.toList == ([70, 76, 65, 71, 83] : List UInt8)) = true := beq_iff_eq.mpr c20
                      have c20b1 : (x3_11.toList != ([70, 76, 65, 71, 83] : List UInt8)) = false := bne_eq_false_iff_eq.mpr c20
                      clear c20
                      (first | rw [c20b0] | (simp only [i64_w, i32_w]; rw [c20b0]) | skip)
                      have H' := Aside0.mk H
                      clear H
                      go_wp2
                      go_meet
                      case rel => exact ⟨_, (false), (by first | rfl | (simp; done) | (simp [*]; done)), H', ⟨by have := HJ2.out; have := HJ6.out; have := HJ11.out; first | omega | exact Nat.le_refl _⟩, ⟨by repeat (first | (with_reducible first | exact HB.out | apply below_alloc | apply pw_below_drewN | apply below_drew1) | exact HB.out)⟩⟩
                    · rw [if_neg c20] at H
                      have c20b0 : (x3_11.toList == ([70, 76, 65, 71, 83] : List UInt8)) = false := beq_eq_false_iff_ne.mpr c20
                      have c20b1 : (x3_11.toList != ([70, 76, 65, 71, 83] : List UInt8)) = true := bne_iff_ne.mpr c20
                      (first | rw [c20b0] | (simp only [i64_w, i32_w]; rw [c20b0]) | skip)
                      by_cases c21 : x3_11.toList = ([43, 70, 76, 65, 71, 83] : List UInt8)
                      · rw [if_pos c21] at H
                        have c21b0 : (x3_11.toList == ([43, 70, 76, 65, 71, 83] : List UInt8)) = true := beq_iff_eq.mpr c21
                        have c21b1 : (x3_11.toList != ([43, 70, 76, 65, 71, 83] : List UInt8)) = false := bne_eq_false_iff_eq.mpr c21
                        clear c21
                        have H' := Aside0.mk H
                        clear H
                        go_wp2
                        go_meet
                        case rel => exact ⟨_, (false), (by first | rfl | (simp; done) | (simp [*]; done)), H', ⟨by have := HJ2.out; have := HJ6.out; have := HJ11.out; first | omega | exact Nat.le_refl _⟩, ⟨by repeat (first | (with_reducible first | exact HB.out | apply below_alloc | apply pw_below_drewN | apply below_drew1) | exact HB.out)⟩⟩
                      · rw [if_neg c21] at H
                        have c21b0 : (x3_11.toList == ([43, 70, 76, 65, 71, 83] : List UInt8)) = false := beq_eq_false_iff_ne.mpr c21
                        have c21b1 : (x3_11.toList != ([43, 70, 76, 65, 71, 83] : List UInt8)) = true := bne_iff_ne.mpr c21
                        have H' := Aside0.mk H
                        clear H
                        go_wp2
                        go_meet
                        case rel => exact ⟨_, ((x3_11.toList != ([45, 70, 76, 65, 71, 83] : List UInt8))), (by first | rfl | (simp; done) | (simp [*]; done)), H', ⟨by have := HJ2.out; have := HJ6.out; have := HJ11.out; first | omega | exact Nat.le_refl _⟩, ⟨by repeat (first | (with_reducible first | exact HB.out | apply below_alloc | apply pw_below_drewN | apply below_drew1) | exact HB.out)⟩⟩
                  case rest =>
                    clear HC18
                    try clear c1
                    try clear c2
                    try clear c2b0
                    try clear c2b1
                    try clear p2
                    try clear c4
                    try clear c4b0
                    try clear c4b1
                    try clear c6
                    try clear p6
                    try clear c8
                    try clear c8b0
                    try clear c10
                    try clear c10b0
                    try clear c10b1
                    try clear c11
                    try clear c11b0
                    try clear c11b1
                    try clear c13
                    try clear c15
                    try clear c15b0
                    try clear c15b1
                    try clear c16
                    try clear c16b0
                    try clear c16b1
                    try clear c20
                    try clear c20b0
                    try clear c20b1
                    try clear c21
                    try clear c21b0
                    try clear c21b1
                    try clear p2
                    try clear p6
                    obtain ⟨kq, x53_17, rfl, HA, HJ17, HB⟩ := hcut
                    cases kq with
                    | zero => exact absurd HA.out (by simp [laws_FnFlagsItem.j3])
                    | succ kj17 =>
                      have H := HA.out
                      clear HA
                      simp only [laws_FnFlagsItem.j3] at H
                      by_cases c22 : x53_17 = true
                      · subst c22
                        have H1 : ((Own.impl_FlagsOp.f (⟨#[70, 76, 65, 71, 83]⟩ : ByteArray)).bind fun bt106 => ((Own.spec_Upper9.f a0).bind fun t109 => (if t109.toList = a0.toList then (if bt106.2.2 = true then (some (!t105)) else (some false)) else (some true)))) = some r := by rw [if_pos rfl] at H; exact H
                        clear H
                        have H := H1
                        clear H1
                        replace H := Option.bind_eq_some_iff.mp H
                        obtain ⟨⟨t106, t107, t108⟩, A230, H⟩ := H
                        replace H : ((Own.spec_Upper9.f a0).bind fun t109 => (if t109.toList = a0.toList then (if t108 = true then (some (!t105)) else (some false)) else (some true))) = some r := H
                        have A23 := Aside0.mk A230
                        clear A230
                        replace H := Option.bind_eq_some_iff.mp H
                        obtain ⟨t109, A240, H⟩ := H
                        replace H : (if t109.toList = a0.toList then (if t108 = true then (some (!t105)) else (some false)) else (some true)) = some r := H
                        have A24 := Aside0.mk A240
                        clear A240
                        by_cases c25 : t109.toList = a0.toList
                        · rw [if_pos c25] at H
                          have c25b0 : (t109.toList == a0.toList) = true := beq_iff_eq.mpr c25
                          have c25b1 : (t109.toList != a0.toList) = false := bne_eq_false_iff_eq.mpr c25
                          clear c25
                          by_cases c26 : t108 = true
                          · subst c26
                            have H1 : (some (!t105)) = some r := by rw [if_pos rfl] at H; exact H
                            clear H
                            have H := H1
                            clear H1
                            obtain rfl := Option.some.inj H
                            go_wp2_with (first | ((with_reducible refine gate_callee (f := 15) rfl ?_); refine goesL_ (some 55) rfl rfl Try.func15 (by kernel_rfl) rfl #[.string (⟨#[70, 76, 65, 71, 83]⟩ : ByteArray)] rfl (by (try simp only [List.map_toArray, List.map_cons, List.map_nil]); first | done | rfl | (simp only [List.length_drop, List.length_take]; rfl)) ?_; (with_reducible refine (Own.impl_FlagsOp.calls (⟨#[70, 76, 65, 71, 83]⟩ : ByteArray) t106 t107 true _ A23.out).mono ?_); rintro e w27 ⟨rfl, hb⟩; refine ⟨_, rfl, ?_⟩; have n0_ := Aside0.mk (below_step (by repeat (first | (with_reducible first | exact HB.out | apply below_alloc | apply pw_below_drewN | apply below_drew1) | exact HB.out)) hb); clear HB; have HB := n0_; clear n0_; (try clear hb); (try clear hb2); (try clear hk); (try clear hi)) | ((with_reducible refine gate_callee (f := 16) rfl ?_); refine goesL_ (some 60) rfl rfl Try.func16 (by kernel_rfl) rfl #[.string a0] rfl (by (try simp only [List.map_toArray, List.map_cons, List.map_nil]); first | done | rfl | (simp only [List.length_drop, List.length_take]; rfl)) ?_; (with_reducible refine (Own.spec_Upper9.calls a0 t109 _ A24.out).mono ?_); rintro e w28 ⟨rfl, hb⟩; refine ⟨_, rfl, ?_⟩; have n0_ := Aside0.mk (below_step (by repeat (first | (with_reducible first | exact HB.out | apply below_alloc | apply pw_below_drewN | apply below_drew1) | exact HB.out)) hb); clear HB; have HB := n0_; clear n0_; (try clear hb); (try clear hb2); (try clear hk); (try clear hi)))
                            go_ret
                            exact ⟨by first | rfl | (simp [errW_none, errW_some] <;> rfl) | (simp [*, errW_none, errW_some] <;> rfl), by repeat (first | (with_reducible first | exact HB.out | apply below_alloc | apply pw_below_drewN | apply below_drew1) | exact HB.out)⟩
                          · replace c26 := Bool.eq_false_iff.mpr c26
                            subst c26
                            have H1 : (some false) = some r := by rw [if_neg (show ¬ (false = true) by decide)] at H; exact H
                            clear H
                            have H := H1
                            clear H1
                            obtain rfl := Option.some.inj H
                            go_wp2_with (first | ((with_reducible refine gate_callee (f := 15) rfl ?_); refine goesL_ (some 55) rfl rfl Try.func15 (by kernel_rfl) rfl #[.string (⟨#[70, 76, 65, 71, 83]⟩ : ByteArray)] rfl (by (try simp only [List.map_toArray, List.map_cons, List.map_nil]); first | done | rfl | (simp only [List.length_drop, List.length_take]; rfl)) ?_; (with_reducible refine (Own.impl_FlagsOp.calls (⟨#[70, 76, 65, 71, 83]⟩ : ByteArray) t106 t107 false _ A23.out).mono ?_); rintro e w29 ⟨rfl, hb⟩; refine ⟨_, rfl, ?_⟩; have n0_ := Aside0.mk (below_step (by repeat (first | (with_reducible first | exact HB.out | apply below_alloc | apply pw_below_drewN | apply below_drew1) | exact HB.out)) hb); clear HB; have HB := n0_; clear n0_; (try clear hb); (try clear hb2); (try clear hk); (try clear hi)) | ((with_reducible refine gate_callee (f := 16) rfl ?_); refine goesL_ (some 60) rfl rfl Try.func16 (by kernel_rfl) rfl #[.string a0] rfl (by (try simp only [List.map_toArray, List.map_cons, List.map_nil]); first | done | rfl | (simp only [List.length_drop, List.length_take]; rfl)) ?_; (with_reducible refine (Own.spec_Upper9.calls a0 t109 _ A24.out).mono ?_); rintro e w30 ⟨rfl, hb⟩; refine ⟨_, rfl, ?_⟩; have n0_ := Aside0.mk (below_step (by repeat (first | (with_reducible first | exact HB.out | apply below_alloc | apply pw_below_drewN | apply below_drew1) | exact HB.out)) hb); clear HB; have HB := n0_; clear n0_; (try clear hb); (try clear hb2); (try clear hk); (try clear hi)))
                            go_ret
                            exact ⟨by first | rfl | (simp [errW_none, errW_some] <;> rfl) | (simp [*, errW_none, errW_some] <;> rfl), by repeat (first | (with_reducible first | exact HB.out | apply below_alloc | apply pw_below_drewN | apply below_drew1) | exact HB.out)⟩
                        · rw [if_neg c25] at H
                          have c25b0 : (t109.toList == a0.toList) = false := beq_eq_false_iff_ne.mpr c25
                          have c25b1 : (t109.toList != a0.toList) = true := bne_iff_ne.mpr c25
                          obtain rfl := Option.some.inj H
                          go_wp2_with (first | ((with_reducible refine gate_callee (f := 15) rfl ?_); refine goesL_ (some 55) rfl rfl Try.func15 (by kernel_rfl) rfl #[.string (⟨#[70, 76, 65, 71, 83]⟩ : ByteArray)] rfl (by (try simp only [List.map_toArray, List.map_cons, List.map_nil]); first | done | rfl | (simp only [List.length_drop, List.length_take]; rfl)) ?_; (with_reducible refine (Own.impl_FlagsOp.calls (⟨#[70, 76, 65, 71, 83]⟩ : ByteArray) t106 t107 t108 _ A23.out).mono ?_); rintro e w31 ⟨rfl, hb⟩; refine ⟨_, rfl, ?_⟩; have n0_ := Aside0.mk (below_step (by repeat (first | (with_reducible first | exact HB.out | apply below_alloc | apply pw_below_drewN | apply below_drew1) | exact HB.out)) hb); clear HB; have HB := n0_; clear n0_; (try clear hb); (try clear hb2); (try clear hk); (try clear hi)) | ((with_reducible refine gate_callee (f := 16) rfl ?_); refine goesL_ (some 60) rfl rfl Try.func16 (by kernel_rfl) rfl #[.string a0] rfl (by (try simp only [List.map_toArray, List.map_cons, List.map_nil]); first | done | rfl | (simp only [List.length_drop, List.length_take]; rfl)) ?_; (with_reducible refine (Own.spec_Upper9.calls a0 t109 _ A24.out).mono ?_); rintro e w32 ⟨rfl, hb⟩; refine ⟨_, rfl, ?_⟩; have n0_ := Aside0.mk (below_step (by repeat (first | (with_reducible first | exact HB.out | apply below_alloc | apply pw_below_drewN | apply below_drew1) | exact HB.out)) hb); clear HB; have HB := n0_; clear n0_; (try clear hb); (try clear hb2); (try clear hk); (try clear hi)))
                          go_ret
                          exact ⟨by first | rfl | (simp [errW_none, errW_some] <;> rfl) | (simp [*, errW_none, errW_some] <;> rfl), by repeat (first | (with_reducible first | exact HB.out | apply below_alloc | apply pw_below_drewN | apply below_drew1) | exact HB.out)⟩
                      · replace c22 := Bool.eq_false_iff.mpr c22
                        subst c22
                        have H1 : (if t105 = true then (if t103.toList = x3_11.toList then (if (t104 == x4_11) = true then ((impl_FlagsItem.f t103 t104).bind fun t110 => (some (t110.toList == a0.toList))) else (some false)) else (some false)) else (some false)) = some r := by rw [if_neg (show ¬ (false = true) by decide)] at H; exact H
                        clear H
                        have H := H1
                        clear H1
                        by_cases c33 : t105 = true
                        · subst c33
                          have H1 : (if t103.toList = x3_11.toList then (if (t104 == x4_11) = true then ((impl_FlagsItem.f t103 t104).bind fun t110 => (some (t110.toList == a0.toList))) else (some false)) else (some false)) = some r := by rw [if_pos rfl] at H; exact H
                          clear H
                          have H := H1
                          clear H1
                          by_cases c34 : t103.toList = x3_11.toList
                          · rw [if_pos c34] at H
                            have c34b0 : (t103.toList == x3_11.toList) = true := beq_iff_eq.mpr c34
                            have c34b1 : (t103.toList != x3_11.toList) = false := bne_eq_false_iff_eq.mpr c34
                            clear c34
                            by_cases c35 : (t104 == x4_11) = true
                            · rw [if_pos c35] at H
                              have c35b0 : (t104 == x4_11) = true := c35
                              (try (have c35b1 : decide (t104 = x4_11) = true := by simpa using c35))
                              (try (have c35b2 : (t104 == x4_11) = true := by simpa using c35))
                              clear c35
                              replace H := Option.bind_eq_some_iff.mp H
                              obtain ⟨t110, A360, H⟩ := H
                              replace H : (some (t110.toList == a0.toList)) = some r := H
                              have A36 := Aside0.mk A360
                              clear A360
                              obtain rfl := Option.some.inj H
                              go_wp2_with (first | (go_at_call 17; (with_reducible refine (impl_FlagsItem.calls t103 t104 t110 _ A36.out).mono ?_); rintro e w' ⟨rfl, ⟨nd, rfl⟩⟩))
                              go_ret
                              exact ⟨by first | rfl | (simp [errW_none, errW_some] <;> rfl) | (simp [*, errW_none, errW_some] <;> rfl), by repeat (first | (with_reducible first | exact HB.out | apply below_alloc | apply pw_below_drewN | apply below_drew1) | exact HB.out)⟩
                            · rw [if_neg c35] at H
                              have c35b0 : (t104 == x4_11) = false := by simpa using c35
                              (try (have c35b1 : decide (t104 = x4_11) = false := by simpa using c35))
                              (try (have c35b2 : (t104 == x4_11) = false := by simpa using c35))
                              (try (have c35b3 : ¬ (t104 = x4_11) := by simpa using c35))
                              clear c35
                              obtain rfl := Option.some.inj H
                              go_wp2
                              go_ret
                              exact ⟨by first | rfl | (simp [errW_none, errW_some] <;> rfl) | (simp [*, errW_none, errW_some] <;> rfl), by repeat (first | (with_reducible first | exact HB.out | apply below_alloc | apply pw_below_drewN | apply below_drew1) | exact HB.out)⟩
                          · rw [if_neg c34] at H
                            have c34b0 : (t103.toList == x3_11.toList) = false := beq_eq_false_iff_ne.mpr c34
                            have c34b1 : (t103.toList != x3_11.toList) = true := bne_iff_ne.mpr c34
                            obtain rfl := Option.some.inj H
                            go_wp2
                            go_ret
                            exact ⟨by first | rfl | (simp [errW_none, errW_some] <;> rfl) | (simp [*, errW_none, errW_some] <;> rfl), by repeat (first | (with_reducible first | exact HB.out | apply below_alloc | apply pw_below_drewN | apply below_drew1) | exact HB.out)⟩
                        · replace c33 := Bool.eq_false_iff.mpr c33
                          subst c33
                          have H1 : (some false) = some r := by rw [if_neg (show ¬ (false = true) by decide)] at H; exact H
                          clear H
                          have H := H1
                          clear H1
                          obtain rfl := Option.some.inj H
                          go_wp2
                          go_ret
                          exact ⟨by first | rfl | (simp [errW_none, errW_some] <;> rfl) | (simp [*, errW_none, errW_some] <;> rfl), by repeat (first | (with_reducible first | exact HB.out | apply below_alloc | apply pw_below_drewN | apply below_drew1) | exact HB.out)⟩

/-- THE ONE PURE STATEMENT of laws_FnFlagsItem: yours. -/
def laws_FnFlagsItem.Pure : Prop := ∀ (a0 : ByteArray), a0.size ≤ 140737488351232 → ∃ k, laws_FnFlagsItem.f k a0 = some true
theorem laws_FnFlagsItem.walk (P : laws_FnFlagsItem.Pure) (a0 : ByteArray) (w : World) (w0 : a0.size ≤ 140737488351232) :
    Calls Try.prog 6 #[.string a0] w fun e w' => e = .returned (.bool true) ∧ Below w.heap.size w w' := by
  obtain ⟨k, h⟩ := P a0 w0
  refine (laws_FnFlagsItem.calls k a0 true w h).mono ?_
  rintro e w' ⟨rfl, hd⟩
  exact ⟨rfl, hd⟩

end Go.Proofs.Ytnokeaiemiiicaa.PFnFlagsItem
