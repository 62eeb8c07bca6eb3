-- Printed for this claim by a copy of the kit's print that takes hand-proved callees (wip/patch_print.py).
import Derived.Test.YtldiamldbpobgaaGreatDoorPPathx0
import Derived.Test.YtldiamldbpobgaaGreatDoorPPathx1
namespace Go.Proofs.YtldiamldbpobgaaGreatDoor.PPath
open Go.RowKit Go.Proofs.YtldiamldbpobgaaGreatDoorW.PrintWords Go.Proofs.YtldiamldbpobgaaGreatDoorW.PrintLast Go.Proofs.YtldiamldbpobgaaGreatDoorW.PrintMore
attribute [local go_sem] max2_int min2_int max_two min_two max_three min_three max_four min_four   -- for this text's walks alone
set_option linter.unusedVariables false
set_option linter.unusedSimpArgs false

/-! ### spec_Path: function 8 -/
mutual
def spec_Path.j0 : Nat → ByteArray → Bool → Option (ByteArray × ByteArray × Bool)
  | 0, _, _ => none
  | k + 1, x0, x15 => if x15 = true then (some ((⟨#[]⟩ : ByteArray), (⟨#[]⟩ : ByteArray), false)) else (if 1 < (x0.size : Int) then (if (bt x0 1) = 62 then (if 2 ≤ (x0.size : Int) then (some ((⟨#[]⟩ : ByteArray), x0.extract 2 x0.size, true)) else (none)) else (if (bt x0 1) = 34 then (spec_Path.l0 k x0 (1 + 1) (⟨#[]⟩ : ByteArray)) else (spec_Path.l1 k x0 1 (⟨#[]⟩ : ByteArray)))) else (none))
def spec_Path.j4 : Nat → ByteArray → Int → ByteArray → Option (ByteArray × ByteArray × Bool)
  | 0, _, _, _ => none
  | k + 1, x0, x5, x6 => if x6.toList = ([] : List UInt8) then (spec_Path.j5 k x0 x5 x6 true) else (if x5 ≥ (x0.size : Int) then (spec_Path.j5 k x0 x5 x6 true) else (if 0 ≤ x5 then (if x5 < (x0.size : Int) then (spec_Path.j5 k x0 x5 x6 ((bt x0 x5) != 64)) else (none)) else (none)))
def spec_Path.j5 : Nat → ByteArray → Int → ByteArray → Bool → Option (ByteArray × ByteArray × Bool)
  | 0, _, _, _, _ => none
  | k + 1, x0, x5, x6, x97 => if x97 = true then (some ((⟨#[]⟩ : ByteArray), (⟨#[]⟩ : ByteArray), false)) else (spec_Path.l2 k x0 (wrap64 (x5 + 1)) x6 (wrap64 (x5 + 1)))
def spec_Path.l2 : Nat → ByteArray → Int → ByteArray → Int → Option (ByteArray × ByteArray × Bool)
  | 0, _, _, _, _ => none
  | k + 1, x0, x5, x6, x7 => if x5 < (x0.size : Int) then (if 0 ≤ x5 then (if (bt x0 x5) = 32 then (if x5 = x7 then (some ((⟨#[]⟩ : ByteArray), (⟨#[]⟩ : ByteArray), false)) else (if x5 = (x0.size : Int) then (some ((⟨#[]⟩ : ByteArray), (⟨#[]⟩ : ByteArray), false)) else (if (bt x0 x5) = 62 then (if 0 ≤ x7 then (if x7 ≤ x5 then (if x5 ≤ (x0.size : Int) then ((spec_domain.f k (x0.extract (x7 : Int).toNat (x5 : Int).toNat)).bind fun t102 => (if t102 = true then (if x6.size + 1 ≤ 9223372036854775807 then (if (x6 ++ (⟨#[64]⟩ : ByteArray)).size + (x0.extract (x7 : Int).toNat (x5 : Int).toNat).size ≤ 9223372036854775807 then (if 0 ≤ (wrap64 (x5 + 1)) then (if (wrap64 (x5 + 1)) ≤ (x0.size : Int) then (some ((x6 ++ (⟨#[64]⟩ : ByteArray)) ++ (x0.extract (x7 : Int).toNat (x5 : Int).toNat), x0.extract ((wrap64 (x5 + 1)) : Int).toNat x0.size, true)) else (none)) else (none)) else (none)) else (none)) else (some ((⟨#[]⟩ : ByteArray), (⟨#[]⟩ : ByteArray), false)))) else (none)) else (none)) else (none)) else (some ((⟨#[]⟩ : ByteArray), (⟨#[]⟩ : ByteArray), false))))) else (if (bt x0 x5) = 62 then (if x5 = x7 then (some ((⟨#[]⟩ : ByteArray), (⟨#[]⟩ : ByteArray), false)) else (if x5 = (x0.size : Int) then (some ((⟨#[]⟩ : ByteArray), (⟨#[]⟩ : ByteArray), false)) else (if 0 ≤ x7 then (if x7 ≤ x5 then (if x5 ≤ (x0.size : Int) then ((spec_domain.f k (x0.extract (x7 : Int).toNat (x5 : Int).toNat)).bind fun t103 => (if t103 = true then (if x6.size + 1 ≤ 9223372036854775807 then (if (x6 ++ (⟨#[64]⟩ : ByteArray)).size + (x0.extract (x7 : Int).toNat (x5 : Int).toNat).size ≤ 9223372036854775807 then (if 0 ≤ (wrap64 (x5 + 1)) then (if (wrap64 (x5 + 1)) ≤ (x0.size : Int) then (some ((x6 ++ (⟨#[64]⟩ : ByteArray)) ++ (x0.extract (x7 : Int).toNat (x5 : Int).toNat), x0.extract ((wrap64 (x5 + 1)) : Int).toNat x0.size, true)) else (none)) else (none)) else (none)) else (none)) else (some ((⟨#[]⟩ : ByteArray), (⟨#[]⟩ : ByteArray), false)))) else (none)) else (none)) else (none)))) else (spec_Path.l2 k x0 (wrap64 (x5 + 1)) x6 x7))) else (none)) else (if x5 = x7 then (some ((⟨#[]⟩ : ByteArray), (⟨#[]⟩ : ByteArray), false)) else (if x5 = (x0.size : Int) then (some ((⟨#[]⟩ : ByteArray), (⟨#[]⟩ : ByteArray), false)) else (if 0 ≤ x5 then (none) else (none))))
def spec_Path.l0 : Nat → ByteArray → Int → ByteArray → Option (ByteArray × ByteArray × Bool)
  | 0, _, _, _ => none
  | k + 1, x0, x5, x6 => if x5 < (x0.size : Int) then (if 0 ≤ x5 then (spec_Path.j2 k x0 x5 x6 ((bt x0 x5) != 34)) else (none)) else (spec_Path.j2 k x0 x5 x6 false)
def spec_Path.j2 : Nat → ByteArray → Int → ByteArray → Bool → Option (ByteArray × ByteArray × Bool)
  | 0, _, _, _, _ => none
  | k + 1, x0, x5, x6, x36 => if x36 = true then (if 0 ≤ x5 then (if x5 < (x0.size : Int) then (if (bt x0 x5) = 92 then (if (wrap64 (x5 + 1)) ≥ (x0.size : Int) then (some ((⟨#[]⟩ : ByteArray), (⟨#[]⟩ : ByteArray), false)) else (if 0 ≤ (wrap64 (x5 + 1)) then (if (wrap64 (x5 + 1)) ≤ (wrap64 ((wrap64 (x5 + 1)) + 1)) then (if (wrap64 ((wrap64 (x5 + 1)) + 1)) ≤ (x0.size : Int) then (if x6.size + (x0.extract ((wrap64 (x5 + 1)) : Int).toNat ((wrap64 ((wrap64 (x5 + 1)) + 1)) : Int).toNat).size ≤ 9223372036854775807 then (spec_Path.l0 k x0 (wrap64 ((wrap64 (x5 + 1)) + 1)) (x6 ++ (x0.extract ((wrap64 (x5 + 1)) : Int).toNat ((wrap64 ((wrap64 (x5 + 1)) + 1)) : Int).toNat))) else (none)) else (none)) else (none)) else (none))) else (if x5 ≥ (x0.size : Int) then (some ((⟨#[]⟩ : ByteArray), (⟨#[]⟩ : ByteArray), false)) else (if x5 ≤ (wrap64 (x5 + 1)) then (if (wrap64 (x5 + 1)) ≤ (x0.size : Int) then (if x6.size + (x0.extract (x5 : Int).toNat ((wrap64 (x5 + 1)) : Int).toNat).size ≤ 9223372036854775807 then (spec_Path.l0 k x0 (wrap64 (x5 + 1)) (x6 ++ (x0.extract (x5 : Int).toNat ((wrap64 (x5 + 1)) : Int).toNat))) else (none)) else (none)) else (none)))) else (none)) else (none)) else (spec_Path.j4 k x0 (wrap64 (x5 + 1)) x6)
def spec_Path.l1 : Nat → ByteArray → Int → ByteArray → Option (ByteArray × ByteArray × Bool)
  | 0, _, _, _ => none
  | k + 1, x0, x5, x6 => if x5 < (x0.size : Int) then (if 0 ≤ x5 then (if (bt x0 x5) = 64 then (spec_Path.j4 k x0 x5 x6) else ((Own.spec_special.f (bt x0 x5)).bind fun t101 => (if t101 = true then (spec_Path.j4 k x0 x5 x6) else (if x5 ≤ (wrap64 (x5 + 1)) then (if (wrap64 (x5 + 1)) ≤ (x0.size : Int) then (if x6.size + (x0.extract (x5 : Int).toNat ((wrap64 (x5 + 1)) : Int).toNat).size ≤ 9223372036854775807 then (spec_Path.l1 k x0 (wrap64 (x5 + 1)) (x6 ++ (x0.extract (x5 : Int).toNat ((wrap64 (x5 + 1)) : Int).toNat))) else (none)) else (none)) else (none))))) else (none)) else (spec_Path.j4 k x0 x5 x6)
end
def spec_Path.f (k : Nat) (a0 : ByteArray) : Option (ByteArray × ByteArray × Bool) := if (a0.size : Int) < 2 then (spec_Path.j0 k a0 true) else (if 0 < (a0.size : Int) then (spec_Path.j0 k a0 ((bt a0 0) != 60)) else (none))
theorem spec_Path.mono_l : ∀ k, (∀ y0 y1, LeO (spec_Path.j0 k y0 y1) (spec_Path.j0 (k + 1) y0 y1)) ∧ (∀ y0 y1 y2, LeO (spec_Path.j4 k y0 y1 y2) (spec_Path.j4 (k + 1) y0 y1 y2)) ∧ (∀ y0 y1 y2 y3, LeO (spec_Path.j5 k y0 y1 y2 y3) (spec_Path.j5 (k + 1) y0 y1 y2 y3)) ∧ (∀ y0 y1 y2 y3, LeO (spec_Path.l2 k y0 y1 y2 y3) (spec_Path.l2 (k + 1) y0 y1 y2 y3)) ∧ (∀ y0 y1 y2, LeO (spec_Path.l0 k y0 y1 y2) (spec_Path.l0 (k + 1) y0 y1 y2)) ∧ (∀ y0 y1 y2 y3, LeO (spec_Path.j2 k y0 y1 y2 y3) (spec_Path.j2 (k + 1) y0 y1 y2 y3)) ∧ (∀ y0 y1 y2, LeO (spec_Path.l1 k y0 y1 y2) (spec_Path.l1 (k + 1) y0 y1 y2))
  | 0 => ⟨fun _ _ r h => by simp [spec_Path.j0] at h, fun _ _ _ r h => by simp [spec_Path.j4] at h, fun _ _ _ _ r h => by simp [spec_Path.j5] at h, fun _ _ _ _ r h => by simp [spec_Path.l2] at h, fun _ _ _ r h => by simp [spec_Path.l0] at h, fun _ _ _ _ r h => by simp [spec_Path.j2] at h, fun _ _ _ r h => by simp [spec_Path.l1] at h⟩
  | k + 1 => by
    obtain ⟨ih0, ih1, ih2, ih3, ih4, ih5, ih6⟩ := spec_Path.mono_l k
    refine ⟨?_, ?_, ?_, ?_, ?_, ?_, ?_⟩
    · intro y0 y1
      unfold spec_Path.j0
      repeat' first
      | (with_reducible exact ih0 _ _)
      | (with_reducible exact ih1 _ _ _)
      | (with_reducible exact ih2 _ _ _ _)
      | (with_reducible exact ih3 _ _ _ _)
      | (with_reducible exact ih4 _ _ _)
      | (with_reducible exact ih5 _ _ _ _)
      | (with_reducible exact ih6 _ _ _)
      | (with_reducible exact spec_domain.mono _ _)
      | (with_reducible exact LeO.refl _)
      | (with_reducible exact LeO.none _)
      | (with_reducible refine LeO.ite ?_ ?_)
      | (with_reducible refine LeO.bind ?_ (fun _ => ?_))
      | exact ih0 _ _
      | exact ih1 _ _ _
      | exact ih2 _ _ _ _
      | exact ih3 _ _ _ _
      | exact ih4 _ _ _
      | exact ih5 _ _ _ _
      | exact ih6 _ _ _
      | exact spec_domain.mono _ _
      | exact LeO.none _
      | refine LeO.ite ?_ ?_
      | refine LeO.bind ?_ (fun _ => ?_)
    · intro y0 y1 y2
      unfold spec_Path.j4
      repeat' first
      | (with_reducible exact ih0 _ _)
      | (with_reducible exact ih1 _ _ _)
      | (with_reducible exact ih2 _ _ _ _)
      | (with_reducible exact ih3 _ _ _ _)
      | (with_reducible exact ih4 _ _ _)
      | (with_reducible exact ih5 _ _ _ _)
      | (with_reducible exact ih6 _ _ _)
      | (with_reducible exact spec_domain.mono _ _)
      | (with_reducible exact LeO.refl _)
      | (with_reducible exact LeO.none _)
      | (with_reducible refine LeO.ite ?_ ?_)
      | (with_reducible refine LeO.bind ?_ (fun _ => ?_))
      | exact ih0 _ _
      | exact ih1 _ _ _
      | exact ih2 _ _ _ _
      | exact ih3 _ _ _ _
      | exact ih4 _ _ _
      | exact ih5 _ _ _ _
      | exact ih6 _ _ _
      | exact spec_domain.mono _ _
      | exact LeO.none _
      | refine LeO.ite ?_ ?_
      | refine LeO.bind ?_ (fun _ => ?_)
    · intro y0 y1 y2 y3
      unfold spec_Path.j5
      repeat' first
      | (with_reducible exact ih0 _ _)
      | (with_reducible exact ih1 _ _ _)
      | (with_reducible exact ih2 _ _ _ _)
      | (with_reducible exact ih3 _ _ _ _)
      | (with_reducible exact ih4 _ _ _)
      | (with_reducible exact ih5 _ _ _ _)
      | (with_reducible exact ih6 _ _ _)
      | (with_reducible exact spec_domain.mono _ _)
      | (with_reducible exact LeO.refl _)
      | (with_reducible exact LeO.none _)
      | (with_reducible refine LeO.ite ?_ ?_)
      | (with_reducible refine LeO.bind ?_ (fun _ => ?_))
      | exact ih0 _ _
      | exact ih1 _ _ _
      | exact ih2 _ _ _ _
      | exact ih3 _ _ _ _
      | exact ih4 _ _ _
      | exact ih5 _ _ _ _
      | exact ih6 _ _ _
      | exact spec_domain.mono _ _
      | exact LeO.none _
      | refine LeO.ite ?_ ?_
      | refine LeO.bind ?_ (fun _ => ?_)
    · intro y0 y1 y2 y3
      unfold spec_Path.l2
      repeat' first
      | (with_reducible exact ih0 _ _)
      | (with_reducible exact ih1 _ _ _)
      | (with_reducible exact ih2 _ _ _ _)
      | (with_reducible exact ih3 _ _ _ _)
      | (with_reducible exact ih4 _ _ _)
      | (with_reducible exact ih5 _ _ _ _)
      | (with_reducible exact ih6 _ _ _)
      | (with_reducible exact spec_domain.mono _ _)
      | (with_reducible exact LeO.refl _)
      | (with_reducible exact LeO.none _)
      | (with_reducible refine LeO.ite ?_ ?_)
      | (with_reducible refine LeO.bind ?_ (fun _ => ?_))
      | exact ih0 _ _
      | exact ih1 _ _ _
      | exact ih2 _ _ _ _
      | exact ih3 _ _ _ _
      | exact ih4 _ _ _
      | exact ih5 _ _ _ _
      | exact ih6 _ _ _
      | exact spec_domain.mono _ _
      | exact LeO.none _
      | refine LeO.ite ?_ ?_
      | refine LeO.bind ?_ (fun _ => ?_)
    · intro y0 y1 y2
      unfold spec_Path.l0
      repeat' first
      | (with_reducible exact ih0 _ _)
      | (with_reducible exact ih1 _ _ _)
      | (with_reducible exact ih2 _ _ _ _)
      | (with_reducible exact ih3 _ _ _ _)
      | (with_reducible exact ih4 _ _ _)
      | (with_reducible exact ih5 _ _ _ _)
      | (with_reducible exact ih6 _ _ _)
      | (with_reducible exact spec_domain.mono _ _)
      | (with_reducible exact LeO.refl _)
      | (with_reducible exact LeO.none _)
      | (with_reducible refine LeO.ite ?_ ?_)
      | (with_reducible refine LeO.bind ?_ (fun _ => ?_))
      | exact ih0 _ _
      | exact ih1 _ _ _
      | exact ih2 _ _ _ _
      | exact ih3 _ _ _ _
      | exact ih4 _ _ _
      | exact ih5 _ _ _ _
      | exact ih6 _ _ _
      | exact spec_domain.mono _ _
      | exact LeO.none _
      | refine LeO.ite ?_ ?_
      | refine LeO.bind ?_ (fun _ => ?_)
    · intro y0 y1 y2 y3
      unfold spec_Path.j2
      repeat' first
      | (with_reducible exact ih0 _ _)
      | (with_reducible exact ih1 _ _ _)
      | (with_reducible exact ih2 _ _ _ _)
      | (with_reducible exact ih3 _ _ _ _)
      | (with_reducible exact ih4 _ _ _)
      | (with_reducible exact ih5 _ _ _ _)
      | (with_reducible exact ih6 _ _ _)
      | (with_reducible exact spec_domain.mono _ _)
      | (with_reducible exact LeO.refl _)
      | (with_reducible exact LeO.none _)
      | (with_reducible refine LeO.ite ?_ ?_)
      | (with_reducible refine LeO.bind ?_ (fun _ => ?_))
      | exact ih0 _ _
      | exact ih1 _ _ _
      | exact ih2 _ _ _ _
      | exact ih3 _ _ _ _
      | exact ih4 _ _ _
      | exact ih5 _ _ _ _
      | exact ih6 _ _ _
      | exact spec_domain.mono _ _
      | exact LeO.none _
      | refine LeO.ite ?_ ?_
      | refine LeO.bind ?_ (fun _ => ?_)
    · intro y0 y1 y2
      unfold spec_Path.l1
      repeat' first
      | (with_reducible exact ih0 _ _)
      | (with_reducible exact ih1 _ _ _)
      | (with_reducible exact ih2 _ _ _ _)
      | (with_reducible exact ih3 _ _ _ _)
      | (with_reducible exact ih4 _ _ _)
      | (with_reducible exact ih5 _ _ _ _)
      | (with_reducible exact ih6 _ _ _)
      | (with_reducible exact spec_domain.mono _ _)
      | (with_reducible exact LeO.refl _)
      | (with_reducible exact LeO.none _)
      | (with_reducible refine LeO.ite ?_ ?_)
      | (with_reducible refine LeO.bind ?_ (fun _ => ?_))
      | exact ih0 _ _
      | exact ih1 _ _ _
      | exact ih2 _ _ _ _
      | exact ih3 _ _ _ _
      | exact ih4 _ _ _
      | exact ih5 _ _ _ _
      | exact ih6 _ _ _
      | exact spec_domain.mono _ _
      | exact LeO.none _
      | refine LeO.ite ?_ ?_
      | refine LeO.bind ?_ (fun _ => ?_)
theorem spec_Path.mono : ∀ a0 k, LeO (spec_Path.f k a0) (spec_Path.f (k + 1) a0) := by
  intro a0 k
  obtain ⟨ih0, ih1, ih2, ih3, ih4, ih5, ih6⟩ := spec_Path.mono_l k
  unfold spec_Path.f
  repeat' first
      | (with_reducible exact ih0 _ _)
      | (with_reducible exact ih1 _ _ _)
      | (with_reducible exact ih2 _ _ _ _)
      | (with_reducible exact ih3 _ _ _ _)
      | (with_reducible exact ih4 _ _ _)
      | (with_reducible exact ih5 _ _ _ _)
      | (with_reducible exact ih6 _ _ _)
      | (with_reducible exact spec_domain.mono _ _)
      | (with_reducible exact LeO.refl _)
      | (with_reducible exact LeO.none _)
      | (with_reducible refine LeO.ite ?_ ?_)
      | (with_reducible refine LeO.bind ?_ (fun _ => ?_))
      | exact ih0 _ _
      | exact ih1 _ _ _
      | exact ih2 _ _ _ _
      | exact ih3 _ _ _ _
      | exact ih4 _ _ _
      | exact ih5 _ _ _ _
      | exact ih6 _ _ _
      | exact spec_domain.mono _ _
      | exact LeO.none _
      | refine LeO.ite ?_ ?_
      | refine LeO.bind ?_ (fun _ => ?_)
set_option maxHeartbeats 8000000 in
set_option maxRecDepth 100000 in
theorem spec_Path.calls (k : Nat) (a0 : ByteArray) (r1 : ByteArray) (r2 : ByteArray) (r3 : Bool) (w : World) (h : spec_Path.f k a0 = some (r1, r2, r3)) :
    Calls Tryz.prog 8 #[.string a0] w fun e w' => e = .returned (.tuple #[.string r1, .string r2, .bool r3]) ∧ Below w.heap.size w w' := by
  have HB := Aside0.mk (Below.refl w.heap.size w)
  have H : (if (a0.size : Int) < 2 then (spec_Path.j0 k a0 true) else (if 0 < (a0.size : Int) then (spec_Path.j0 k a0 ((bt a0 0) != 60)) else (none))) = some (r1, r2, r3) := h
  clear h
  have HC2 := Aside0.mk H
  clear H
  go_enter Tryz.func8, Tryz.ntmps8
  go_upto_region 1 with (fail)
  repeat (go_quiet (fail); go_upto_region 1 with (fail))
  go_cut [15] (fun v15 wc => ∃ (kq : Nat) (x15_1 : Bool), v15 = .bool x15_1 ∧ Aside0 (spec_Path.j0 kq a0 x15_1 = some (r1, r2, r3)) ∧ Aside0 (kq ≤ k) ∧ Aside0 (Below w.heap.size w wc))
  case first =>
    have H := HC2.out
    clear HC2
    by_cases c3 : (a0.size : Int) < 2
    · rw [if_pos c3] at H
      have c3b0 : decide ((a0.size : Int) < 2) = true := decide_eq_true c3
      have c3b1 : decide (a0.size < 2) = true := decide_eq_true (by omega)
      clear c3
      (first | rw [c3b0] | (simp only [i64_w, i32_w]; rw [c3b0]) | skip)
      have H' := Aside0.mk H
      clear H
      go_wp2
      repeat (go_quiet (fail); try go_wp2)
      go_meet
      case rel => exact ⟨_, (true), (by first | rfl | (simp; done) | (simp [*]; done)), H', ⟨by first | omega | exact Nat.le_refl _⟩, ⟨by repeat (first | (with_reducible first | exact HB.out | apply below_alloc | apply pw_below_drewN | apply below_drew1) | exact HB.out)⟩⟩
    · rw [if_neg c3] at H
      have c3b0 : decide ((a0.size : Int) < 2) = false := decide_eq_false c3
      have c3b1 : decide (a0.size < 2) = false := decide_eq_false (by omega)
      clear c3
      (first | rw [c3b0] | (simp only [i64_w, i32_w]; rw [c3b0]) | skip)
      by_cases c4 : 0 < (a0.size : Int)
      · rw [if_pos c4] at H
        have c4b0 : decide (0 < (a0.size : Int)) = true := decide_eq_true c4
        have c4b1 : decide (0 < a0.size) = true := decide_eq_true (by omega)
        clear c4
        have H' := Aside0.mk H
        clear H
        have p5 : 0 ≤ (0 : Int) := (by omega)
        have q5 : 0 < a0.size := (by have : (0 : Int) < (a0.size : Int) := of_decide_eq_true (by first | (with_reducible assumption) | assumption); omega)
        have hx5 : ∀ h : 0 < a0.size, ((a0[0]'h).toNat : Int) = bt a0 0 := bt_at a0 0
        clear p5
        have qi5 : (0 < (a0.size : Int)) = True := eq_true (of_decide_eq_true (by first | (with_reducible assumption) | assumption))
        replace q5 := eq_true q5
        go_wp2
        repeat (go_quiet (fail); try go_wp2)
        go_meet
        case rel => exact ⟨_, (((bt a0 0) != 60)), (by first | rfl | (simp; done) | (simp [*]; done)), H', ⟨by first | omega | exact Nat.le_refl _⟩, ⟨by repeat (first | (with_reducible first | exact HB.out | apply below_alloc | apply pw_below_drewN | apply below_drew1) | exact HB.out)⟩⟩
      · rw [if_neg c4] at H
        exact absurd H (by simp)
  case rest =>
    clear HC2
    try clear p2
    try clear c3
    try clear c3b0
    try clear c3b1
    try clear c4
    try clear c4b0
    try clear c4b1
    try clear p5
    try clear q5
    try clear hx5
    try clear qi5
    try clear p5
    try clear q5
    obtain ⟨kq, x15_1, rfl, HA, HJ1, HB⟩ := hcut
    cases kq with
    | zero => exact absurd HA.out (by simp [spec_Path.j0])
    | succ kj1 =>
      have H := HA.out
      clear HA
      simp only [spec_Path.j0] at H
      by_cases c6 : x15_1 = true
      · subst c6
        have H1 : (some ((⟨#[]⟩ : ByteArray), (⟨#[]⟩ : ByteArray), false)) = some (r1, r2, r3) := by rw [if_pos rfl] at H; exact H
        clear H
        have H := H1
        clear H1
        simp only [Option.some.injEq, Prod.mk.injEq] at H
        obtain ⟨rfl, rfl, rfl⟩ := H
        go_wp2
        repeat (go_quiet (fail); try go_wp2)
        go_ret3
        exact ⟨by first | rfl | (simp [errW_none, errW_some] <;> rfl) | (simp [*, errW_none, errW_some] <;> rfl), by repeat (first | (with_reducible first | exact HB.out | apply below_alloc | apply pw_below_drewN | apply below_drew1) | exact HB.out)⟩
      · replace c6 := Bool.eq_false_iff.mpr c6
        subst c6
        have H1 : (if 1 < (a0.size : Int) then (if (bt a0 1) = 62 then (if 2 ≤ (a0.size : Int) then (some ((⟨#[]⟩ : ByteArray), a0.extract 2 a0.size, true)) else (none)) else (if (bt a0 1) = 34 then (spec_Path.l0 kj1 a0 (1 + 1) (⟨#[]⟩ : ByteArray)) else (spec_Path.l1 kj1 a0 1 (⟨#[]⟩ : ByteArray)))) else (none)) = some (r1, r2, r3) := by rw [if_neg (show ¬ (false = true) by decide)] at H; exact H
        clear H
        have H := H1
        clear H1
        by_cases c7 : 1 < (a0.size : Int)
        · rw [if_pos c7] at H
          have c7b0 : decide (1 < (a0.size : Int)) = true := decide_eq_true c7
          have c7b1 : decide (1 < a0.size) = true := decide_eq_true (by omega)
          clear c7
          by_cases c9 : (bt a0 1) = 62
          · rw [if_pos c9] at H
            have c9b0 : ((bt a0 1) == 62) = true := beq_iff_eq.mpr c9
            have c9b1 : ((bt a0 1) != 62) = false := bne_eq_false_iff_eq.mpr c9
            clear c9
            by_cases c10 : 2 ≤ (a0.size : Int)
            · rw [if_pos c10] at H
              have c10b0 := eq_true c10
              have c10b1 : decide (2 ≤ (a0.size : Int)) = true := decide_eq_true c10
              clear c10
              simp only [Option.some.injEq, Prod.mk.injEq] at H
              obtain ⟨rfl, rfl, rfl⟩ := H
              have p8 : 0 ≤ (1 : Int) := (by omega)
              have q8 : 1 < a0.size := (by have : (1 : Int) < (a0.size : Int) := of_decide_eq_true (by first | (with_reducible assumption) | assumption); omega)
              have hx8 : ∀ h : 1 < a0.size, ((a0[1]'h).toNat : Int) = bt a0 1 := bt_at a0 1
              clear p8
              have qi8 : (1 < (a0.size : Int)) = True := eq_true (of_decide_eq_true (by first | (with_reducible assumption) | assumption))
              replace q8 := eq_true q8
              go_wp2
              repeat (go_quiet (fail); try go_wp2)
              go_ret3
              exact ⟨by first | rfl | (simp [errW_none, errW_some] <;> rfl) | (simp [*, errW_none, errW_some] <;> rfl), by repeat (first | (with_reducible first | exact HB.out | apply below_alloc | apply pw_below_drewN | apply below_drew1) | exact HB.out)⟩
            · rw [if_neg c10] at H
              exact absurd H (by simp)
          · rw [if_neg c9] at H
            have c9b0 : ((bt a0 1) == 62) = false := beq_eq_false_iff_ne.mpr c9
            have c9b1 : ((bt a0 1) != 62) = true := bne_iff_ne.mpr c9
            have HC12 := Aside0.mk H
            clear H
            have p8 : 0 ≤ (1 : Int) := (by omega)
            have q8 : 1 < a0.size := (by have : (1 : Int) < (a0.size : Int) := of_decide_eq_true (by first | (with_reducible assumption) | assumption); omega)
            have hx8 : ∀ h : 1 < a0.size, ((a0[1]'h).toNat : Int) = bt a0 1 := bt_at a0 1
            clear p8
            have qi8 : (1 < (a0.size : Int)) = True := eq_true (of_decide_eq_true (by first | (with_reducible assumption) | assumption))
            replace q8 := eq_true q8
            have p11 : 0 ≤ (1 : Int) := (by omega)
            have q11 : 1 < a0.size := (by have : (1 : Int) < (a0.size : Int) := of_decide_eq_true (by first | (with_reducible assumption) | assumption); omega)
            have hx11 : ∀ h : 1 < a0.size, ((a0[1]'h).toNat : Int) = bt a0 1 := bt_at a0 1
            clear p11
            have qi11 : (1 < (a0.size : Int)) = True := eq_true (of_decide_eq_true (by first | (with_reducible assumption) | assumption))
            replace q11 := eq_true q11
            go_upto_if 24 with (fail)
            repeat (go_quiet (fail); go_upto_if 24 with (fail))
            go_cut [5, 6] (fun v5 v6 wc => ∃ (kq : Nat) (x5_11 : Int) (x6_11 : ByteArray), v5 = .int .i64 x5_11 ∧ v6 = .string x6_11 ∧ Aside0 (spec_Path.j4 kq a0 x5_11 x6_11 = some (r1, r2, r3)) ∧ Aside0 (kq ≤ kj1) ∧ Aside0 (Below w.heap.size w wc))
            case first =>
              have H := HC12.out
              clear HC12
              by_cases c13 : (bt a0 1) = 34
              · rw [if_pos c13] at H
                have c13b0 : ((bt a0 1) == 34) = true := beq_iff_eq.mpr c13
                have c13b1 : ((bt a0 1) != 34) = false := bne_eq_false_iff_eq.mpr c13
                clear c13
                (first | rw [c13b0] | (simp only [i64_w, i32_w]; rw [c13b0]) | skip)
                have H' := Aside0.mk H
                clear H
                go_wp2
                repeat (go_quiet (fail); try go_wp2)
                go_loopg [5, 6] kj1 (fun kq v5 v6 w' => ∃ (x5_2 : Int) (x6_2 : ByteArray), v5 = .int .i64 x5_2 ∧ v6 = .string x6_2 ∧ Aside0 (spec_Path.l0 kq a0 x5_2 x6_2 = some (r1, r2, r3)) ∧ Aside0 (kq ≤ kj1) ∧ Aside0 (Below w.heap.size w w'))
                case atStart => exact ⟨(1 + 1), ((⟨#[]⟩ : ByteArray)), (by first | rfl | (simp; done) | (simp [*]; done)), (by first | rfl | (simp; done) | (simp [*]; done)), H', ⟨Nat.le_refl _⟩, ⟨by repeat (first | (with_reducible first | exact HB.out | apply below_alloc | apply pw_below_drewN | apply below_drew1) | exact HB.out)⟩⟩
                case round =>
                  clear H'
                  try clear c1
                  try clear p1
                  try clear q1
                  try clear hx1
                  try clear qi1
                  try clear p2
                  try clear c3
                  try clear c3b0
                  try clear c3b1
                  try clear c4
                  try clear c4b0
                  try clear c4b1
                  try clear p5
                  try clear q5
                  try clear hx5
                  try clear qi5
                  try clear c6
                  try clear c7
                  try clear c7b0
                  try clear c7b1
                  try clear c8
                  try clear p8
                  try clear q8
                  try clear hx8
                  try clear qi8
                  try clear c9
                  try clear c9b0
                  try clear c9b1
                  try clear c10
                  try clear c10b0
                  try clear c10b1
                  try clear p11
                  try clear q11
                  try clear hx11
                  try clear qi11
                  try clear c13
                  try clear c13b0
                  try clear c13b1
                  try clear p11
                  try clear p2
                  try clear p5
                  try clear p8
                  try clear q11
                  try clear q5
                  try clear q8
                  obtain ⟨x5_2, x6_2, rfl, rfl, HA, HK2, HB⟩ := hrel
                  cases gk with
                  | zero => exact absurd HA.out (by simp [spec_Path.l0])
                  | succ k2 =>
                    have H := HA.out
                    clear HA
                    simp only [spec_Path.l0] at H
                    have HC14 := Aside0.mk H
                    clear H
                    go_upto_region 8 with (fail)
                    repeat (go_quiet (fail); go_upto_region 8 with (fail))
                    go_cut [36] (fun v36 wc => ∃ (kq : Nat) (x36_13 : Bool), v36 = .bool x36_13 ∧ Aside0 (spec_Path.j2 kq a0 x5_2 x6_2 x36_13 = some (r1, r2, r3)) ∧ Aside0 (kq ≤ k2) ∧ Aside0 (Below w.heap.size w wc))
                    case first =>
                      have H := HC14.out
                      clear HC14
                      by_cases c15 : x5_2 < (a0.size : Int)
                      · rw [if_pos c15] at H
                        have c15b0 : decide (x5_2 < (a0.size : Int)) = true := decide_eq_true c15
                        clear c15
                        (first | rw [c15b0] | (simp only [i64_w, i32_w]; rw [c15b0]) | skip)
                        by_cases c16 : 0 ≤ x5_2
                        · rw [if_pos c16] at H
                          have c16b0 : decide (0 ≤ x5_2) = true := decide_eq_true c16
                          clear c16
                          have H' := Aside0.mk H
                          clear H
                          have p17 : 0 ≤ (x5_2 : Int) := of_decide_eq_true (by first | (with_reducible assumption) | assumption)
                          have q17 : x5_2 < (a0.size : Int) := of_decide_eq_true (by first | (with_reducible assumption) | assumption)
                          have hx17 := bt_at a0 x5_2
                          replace p17 := eq_true p17
                          replace q17 := eq_true q17
                          go_wp2
                          repeat (go_quiet (fail); try go_wp2)
                          go_meet
                          case rel => exact ⟨_, (((bt a0 x5_2) != 34)), (by first | rfl | (simp; done) | (simp [*]; done)), H', ⟨by have := HJ1.out; have := HK2.out; first | omega | exact Nat.le_refl _⟩, ⟨by repeat (first | (with_reducible first | exact HB.out | apply below_alloc | apply pw_below_drewN | apply below_drew1) | exact HB.out)⟩⟩
                        · rw [if_neg c16] at H
                          exact absurd H (by simp)
                      · rw [if_neg c15] at H
                        have c15b0 : decide (x5_2 < (a0.size : Int)) = false := decide_eq_false c15
                        clear c15
                        (first | rw [c15b0] | (simp only [i64_w, i32_w]; rw [c15b0]) | skip)
                        have H' := Aside0.mk H
                        clear H
                        go_wp2
                        repeat (go_quiet (fail); try go_wp2)
                        go_meet
                        case rel => exact ⟨_, (false), (by first | rfl | (simp; done) | (simp [*]; done)), H', ⟨by have := HJ1.out; have := HK2.out; first | omega | exact Nat.le_refl _⟩, ⟨by repeat (first | (with_reducible first | exact HB.out | apply below_alloc | apply pw_below_drewN | apply below_drew1) | exact HB.out)⟩⟩
                    case rest =>
                      clear HC14
                      try clear c1
                      try clear p1
                      try clear q1
                      try clear hx1
                      try clear qi1
                      try clear p2
                      try clear c3
                      try clear c3b0
                      try clear c3b1
                      try clear c4
                      try clear c4b0
                      try clear c4b1
                      try clear p5
                      try clear q5
                      try clear hx5
                      try clear qi5
                      try clear c6
                      try clear c7
                      try clear c7b0
                      try clear c7b1
                      try clear c8
                      try clear p8
                      try clear q8
                      try clear hx8
                      try clear qi8
                      try clear c9
                      try clear c9b0
                      try clear c9b1
                      try clear c10
                      try clear c10b0
                      try clear c10b1
                      try clear p11
                      try clear q11
                      try clear hx11
                      try clear qi11
                      try clear c13
                      try clear c13b0
                      try clear c13b1
                      try clear c15
                      try clear c15b0
                      try clear c16
                      try clear c16b0
                      try clear p17
                      try clear q17
                      try clear hx17
                      try clear p1
                      try clear p11
                      try clear p17
                      try clear p2
                      try clear p5
                      try clear p8
                      try clear q1
                      try clear q11
                      try clear q17
                      try clear q5
                      try clear q8
                      obtain ⟨kq, x36_13, rfl, HA, HJ13, HB⟩ := hcut
                      cases kq with
                      | zero => exact absurd HA.out (by simp [spec_Path.j2])
                      | succ kj13 =>
                        have H := HA.out
                        clear HA
                        simp only [spec_Path.j2] at H
                        by_cases c18 : x36_13 = true
                        · subst c18
                          have H1 : (if 0 ≤ x5_2 then (if x5_2 < (a0.size : Int) then (if (bt a0 x5_2) = 92 then (if (wrap64 (x5_2 + 1)) ≥ (a0.size : Int) then (some ((⟨#[]⟩ : ByteArray), (⟨#[]⟩ : ByteArray), false)) else (if 0 ≤ (wrap64 (x5_2 + 1)) then (if (wrap64 (x5_2 + 1)) ≤ (wrap64 ((wrap64 (x5_2 + 1)) + 1)) then (if (wrap64 ((wrap64 (x5_2 + 1)) + 1)) ≤ (a0.size : Int) then (if x6_2.size + (a0.extract ((wrap64 (x5_2 + 1)) : Int).toNat ((wrap64 ((wrap64 (x5_2 + 1)) + 1)) : Int).toNat).size ≤ 9223372036854775807 then (spec_Path.l0 kj13 a0 (wrap64 ((wrap64 (x5_2 + 1)) + 1)) (x6_2 ++ (a0.extract ((wrap64 (x5_2 + 1)) : Int).toNat ((wrap64 ((wrap64 (x5_2 + 1)) + 1)) : Int).toNat))) else (none)) else (none)) else (none)) else (none))) else (if x5_2 ≥ (a0.size : Int) then (some ((⟨#[]⟩ : ByteArray), (⟨#[]⟩ : ByteArray), false)) else (if x5_2 ≤ (wrap64 (x5_2 + 1)) then (if (wrap64 (x5_2 + 1)) ≤ (a0.size : Int) then (if x6_2.size + (a0.extract (x5_2 : Int).toNat ((wrap64 (x5_2 + 1)) : Int).toNat).size ≤ 9223372036854775807 then (spec_Path.l0 kj13 a0 (wrap64 (x5_2 + 1)) (x6_2 ++ (a0.extract (x5_2 : Int).toNat ((wrap64 (x5_2 + 1)) : Int).toNat))) else (none)) else (none)) else (none)))) else (none)) else (none)) = some (r1, r2, r3) := by rw [if_pos rfl] at H; exact H
                          clear H
                          have H := H1
                          clear H1
                          by_cases c19 : 0 ≤ x5_2
                          · rw [if_pos c19] at H
                            have c19b0 : decide (0 ≤ x5_2) = true := decide_eq_true c19
                            clear c19
                            by_cases c20 : x5_2 < (a0.size : Int)
                            · rw [if_pos c20] at H
                              have c20b0 : decide (x5_2 < (a0.size : Int)) = true := decide_eq_true c20
                              clear c20
                              by_cases c22 : (bt a0 x5_2) = 92
                              · rw [if_pos c22] at H
                                have c22b0 : ((bt a0 x5_2) == 92) = true := beq_iff_eq.mpr c22
                                have c22b1 : ((bt a0 x5_2) != 92) = false := bne_eq_false_iff_eq.mpr c22
                                clear c22
                                by_cases c23 : (wrap64 (x5_2 + 1)) ≥ (a0.size : Int)
                                · rw [if_pos c23] at H
                                  have c23b0 : decide ((a0.size : Int) ≤ (wrap64 (x5_2 + 1))) = true := decide_eq_true c23
                                  clear c23
                                  simp only [Option.some.injEq, Prod.mk.injEq] at H
                                  obtain ⟨rfl, rfl, rfl⟩ := H
                                  have p21 : 0 ≤ (x5_2 : Int) := of_decide_eq_true (by first | (with_reducible assumption) | assumption)
                                  have q21 : x5_2 < (a0.size : Int) := of_decide_eq_true (by first | (with_reducible assumption) | assumption)
                                  have hx21 := bt_at a0 x5_2
                                  replace p21 := eq_true p21
                                  replace q21 := eq_true q21
                                  go_wp2
                                  repeat (go_quiet (fail); try go_wp2)
                                  go_ret3
                                  exact ⟨by first | rfl | (simp [errW_none, errW_some] <;> rfl) | (simp [*, errW_none, errW_some] <;> rfl), by repeat (first | (with_reducible first | exact HB.out | apply below_alloc | apply pw_below_drewN | apply below_drew1) | exact HB.out)⟩
                                · rw [if_neg c23] at H
                                  have c23b0 : decide ((a0.size : Int) ≤ (wrap64 (x5_2 + 1))) = false := decide_eq_false c23
                                  clear c23
                                  obtain ⟨ji24, hji24⟩ : ∃ j_ : Int, (wrap64 (x5_2 + 1)) = j_ := ⟨_, rfl⟩
                                  replace H : (if 0 ≤ (ji24) then (if (ji24) ≤ (wrap64 ((ji24) + 1)) then (if (wrap64 ((ji24) + 1)) ≤ (a0.size : Int) then (if x6_2.size + (a0.extract ((ji24) : Int).toNat ((wrap64 ((ji24) + 1)) : Int).toNat).size ≤ 9223372036854775807 then (spec_Path.l0 kj13 a0 (wrap64 ((ji24) + 1)) (x6_2 ++ (a0.extract ((ji24) : Int).toNat ((wrap64 ((ji24) + 1)) : Int).toNat))) else (none)) else (none)) else (none)) else (none)) = some (r1, r2, r3) := by first | (rw [hji24] at H; exact H) | (simp only [hji24] at H ⊢; exact H)
                                  (try rw [hji24] at c23b0)
                                  have hji24w : (IntKind.i64.wrap (x5_2 + 1)) = ji24 := (i64_w _).trans hji24
                                  by_cases c25 : 0 ≤ (ji24)
                                  · rw [if_pos c25] at H
                                    have c25b0 := eq_true c25
                                    have c25b1 : decide (0 ≤ (ji24)) = true := decide_eq_true c25
                                    clear c25
                                    by_cases c26 : (ji24) ≤ (wrap64 ((ji24) + 1))
                                    · rw [if_pos c26] at H
                                      have c26b0 := eq_true c26
                                      have c26b1 : decide ((ji24) ≤ (wrap64 ((ji24) + 1))) = true := decide_eq_true c26
                                      by_cases c27 : (wrap64 ((ji24) + 1)) ≤ (a0.size : Int)
                                      · rw [if_pos c27] at H
                                        have c27b0 := eq_true c27
                                        have c27b1 : decide ((wrap64 ((ji24) + 1)) ≤ (a0.size : Int)) = true := decide_eq_true c27
                                        by_cases c28 : x6_2.size + (a0.extract ((ji24) : Int).toNat ((wrap64 ((ji24) + 1)) : Int).toNat).size ≤ 9223372036854775807
                                        · rw [if_pos c28] at H
                                          have c28b0 := eq_true c28
                                          have c28b1 : decide (x6_2.size + (a0.extract ((ji24) : Int).toNat ((wrap64 ((ji24) + 1)) : Int).toNat).size ≤ 9223372036854775807) = true := decide_eq_true c28
                                          try have c28b2 : (9223372036854775807 < x6_2.size + (a0.extract ((ji24) : Int).toNat ((wrap64 ((ji24) + 1)) : Int).toNat).size) = False := eq_false (Nat.not_lt.2 c28)
                                          have H' := Aside0.mk H
                                          clear H
                                          have p21 : 0 ≤ (x5_2 : Int) := of_decide_eq_true (by first | (with_reducible assumption) | assumption)
                                          have q21 : x5_2 < (a0.size : Int) := of_decide_eq_true (by first | (with_reducible assumption) | assumption)
                                          have hx21 := bt_at a0 x5_2
                                          replace p21 := eq_true p21
                                          replace q21 := eq_true q21
                                          go_wp2
                                          repeat (go_quiet (fail); try go_wp2)
                                          go_roundg kj13
                                          case measure => have := HJ1.out; have := HK2.out; have := HJ13.out; omega
                                          case rel => exact ⟨(wrap64 ((ji24) + 1)), (x6_2 ++ (a0.extract ((ji24) : Int).toNat ((wrap64 ((ji24) + 1)) : Int).toNat)), (by first | rfl | (simp; done) | (simp only [← hji24] <;> (first | rfl | simp)) | (simp [*]; done)), (by first | rfl | (simp; done) | (simp only [← hji24] <;> (first | rfl | simp)) | (simp [*]; done)), (by first | exact H' | (rw [hji24]; exact H') | (simp only [hji24]; exact H')), ⟨by have := HJ1.out; have := HK2.out; have := HJ13.out; omega⟩, ⟨by repeat (first | (with_reducible first | exact HB.out | apply below_alloc | apply pw_below_drewN | apply below_drew1) | exact HB.out)⟩⟩
                                        · rw [if_neg c28] at H
                                          exact absurd H (by simp)
                                      · rw [if_neg c27] at H
                                        exact absurd H (by simp)
                                    · rw [if_neg c26] at H
                                      exact absurd H (by simp)
                                  · rw [if_neg c25] at H
                                    exact absurd H (by simp)
                              · rw [if_neg c22] at H
                                have c22b0 : ((bt a0 x5_2) == 92) = false := beq_eq_false_iff_ne.mpr c22
                                have c22b1 : ((bt a0 x5_2) != 92) = true := bne_iff_ne.mpr c22
                                by_cases c29 : x5_2 ≥ (a0.size : Int)
                                · rw [if_pos c29] at H
                                  have c29b0 : decide ((a0.size : Int) ≤ x5_2) = true := decide_eq_true c29
                                  clear c29
                                  simp only [Option.some.injEq, Prod.mk.injEq] at H
                                  obtain ⟨rfl, rfl, rfl⟩ := H
                                  have p21 : 0 ≤ (x5_2 : Int) := of_decide_eq_true (by first | (with_reducible assumption) | assumption)
                                  have q21 : x5_2 < (a0.size : Int) := of_decide_eq_true (by first | (with_reducible assumption) | assumption)
                                  have hx21 := bt_at a0 x5_2
                                  replace p21 := eq_true p21
                                  replace q21 := eq_true q21
                                  go_wp2
                                  repeat (go_quiet (fail); try go_wp2)
                                  go_ret3
                                  exact ⟨by first | rfl | (simp [errW_none, errW_some] <;> rfl) | (simp [*, errW_none, errW_some] <;> rfl), by repeat (first | (with_reducible first | exact HB.out | apply below_alloc | apply pw_below_drewN | apply below_drew1) | exact HB.out)⟩
                                · rw [if_neg c29] at H
                                  have c29b0 : decide ((a0.size : Int) ≤ x5_2) = false := decide_eq_false c29
                                  clear c29
                                  have c30b0 := eq_true (of_decide_eq_true (by first | (with_reducible assumption) | assumption) : 0 ≤ x5_2)
                                  by_cases c31 : x5_2 ≤ (wrap64 (x5_2 + 1))
                                  · rw [if_pos c31] at H
                                    have c31b0 := eq_true c31
                                    have c31b1 : decide (x5_2 ≤ (wrap64 (x5_2 + 1))) = true := decide_eq_true c31
                                    by_cases c32 : (wrap64 (x5_2 + 1)) ≤ (a0.size : Int)
                                    · rw [if_pos c32] at H
                                      have c32b0 := eq_true c32
                                      have c32b1 : decide ((wrap64 (x5_2 + 1)) ≤ (a0.size : Int)) = true := decide_eq_true c32
                                      by_cases c33 : x6_2.size + (a0.extract (x5_2 : Int).toNat ((wrap64 (x5_2 + 1)) : Int).toNat).size ≤ 9223372036854775807
                                      · rw [if_pos c33] at H
                                        have c33b0 := eq_true c33
                                        have c33b1 : decide (x6_2.size + (a0.extract (x5_2 : Int).toNat ((wrap64 (x5_2 + 1)) : Int).toNat).size ≤ 9223372036854775807) = true := decide_eq_true c33
                                        try have c33b2 : (9223372036854775807 < x6_2.size + (a0.extract (x5_2 : Int).toNat ((wrap64 (x5_2 + 1)) : Int).toNat).size) = False := eq_false (Nat.not_lt.2 c33)
                                        have H' := Aside0.mk H
                                        clear H
                                        have p21 : 0 ≤ (x5_2 : Int) := of_decide_eq_true (by first | (with_reducible assumption) | assumption)
                                        have q21 : x5_2 < (a0.size : Int) := of_decide_eq_true (by first | (with_reducible assumption) | assumption)
                                        have hx21 := bt_at a0 x5_2
                                        replace p21 := eq_true p21
                                        replace q21 := eq_true q21
                                        go_wp2
                                        repeat (go_quiet (fail); try go_wp2)
                                        go_roundg kj13
                                        case measure => have := HJ1.out; have := HK2.out; have := HJ13.out; omega
                                        case rel => exact ⟨(wrap64 (x5_2 + 1)), (x6_2 ++ (a0.extract (x5_2 : Int).toNat ((wrap64 (x5_2 + 1)) : Int).toNat)), (by first | rfl | (simp; done) | (simp [*]; done)), (by first | rfl | (simp; done) | (simp [*]; done)), H', ⟨by have := HJ1.out; have := HK2.out; have := HJ13.out; omega⟩, ⟨by repeat (first | (with_reducible first | exact HB.out | apply below_alloc | apply pw_below_drewN | apply below_drew1) | exact HB.out)⟩⟩
                                      · rw [if_neg c33] at H
                                        exact absurd H (by simp)
                                    · rw [if_neg c32] at H
                                      exact absurd H (by simp)
                                  · rw [if_neg c31] at H
                                    exact absurd H (by simp)
                            · rw [if_neg c20] at H
                              exact absurd H (by simp)
                          · rw [if_neg c19] at H
                            exact absurd H (by simp)
                        · replace c18 := Bool.eq_false_iff.mpr c18
                          subst c18
                          have H1 : (spec_Path.j4 kj13 a0 (wrap64 (x5_2 + 1)) x6_2) = some (r1, r2, r3) := by rw [if_neg (show ¬ (false = true) by decide)] at H; exact H
                          clear H
                          have H := H1
                          clear H1
                          have H' := Aside0.mk H
                          clear H
                          go_wp2
                          repeat (go_quiet (fail); try go_wp2)
                          go_meet
                          case rel => exact ⟨_, (wrap64 (x5_2 + 1)), (x6_2), (by first | rfl | (simp; done) | (simp [*]; done)), (by first | rfl | (simp; done) | (simp [*]; done)), H', ⟨by have := HJ1.out; have := HK2.out; have := HJ13.out; first | omega | exact Nat.le_refl _⟩, ⟨by repeat (first | (with_reducible first | exact HB.out | apply below_alloc | apply pw_below_drewN | apply below_drew1) | exact HB.out)⟩⟩
              · rw [if_neg c13] at H
                have c13b0 : ((bt a0 1) == 34) = false := beq_eq_false_iff_ne.mpr c13
                have c13b1 : ((bt a0 1) != 34) = true := bne_iff_ne.mpr c13
                (first | rw [c13b0] | (simp only [i64_w, i32_w]; rw [c13b0]) | skip)
                have H' := Aside0.mk H
                clear H
                go_wp2
                repeat (go_quiet (fail); try go_wp2)
                go_loopg [5, 6] kj1 (fun kq v5 v6 w' => ∃ (x5_2 : Int) (x6_2 : ByteArray), v5 = .int .i64 x5_2 ∧ v6 = .string x6_2 ∧ Aside0 (spec_Path.l1 kq a0 x5_2 x6_2 = some (r1, r2, r3)) ∧ Aside0 (kq ≤ kj1) ∧ Aside0 (Below w.heap.size w w'))
                case atStart => exact ⟨(1), ((⟨#[]⟩ : ByteArray)), (by first | rfl | (simp; done) | (simp [*]; done)), (by first | rfl | (simp; done) | (simp [*]; done)), H', ⟨Nat.le_refl _⟩, ⟨by repeat (first | (with_reducible first | exact HB.out | apply below_alloc | apply pw_below_drewN | apply below_drew1) | exact HB.out)⟩⟩
                case round =>
                  clear H'
                  try clear c1
                  try clear p1
                  try clear q1
                  try clear hx1
                  try clear qi1
                  try clear c2
                  try clear p2
                  try clear q2
                  try clear hx2
                  try clear c3
                  try clear c3b0
                  try clear c3b1
                  try clear c4
                  try clear c4b0
                  try clear c4b1
                  try clear p5
                  try clear q5
                  try clear hx5
                  try clear qi5
                  try clear c6
                  try clear p6
                  try clear c7
                  try clear c7b0
                  try clear c7b1
                  try clear c8
                  try clear p8
                  try clear q8
                  try clear hx8
                  try clear qi8
                  try clear c9
                  try clear c9b0
                  try clear c9b1
                  try clear c10
                  try clear c10b0
                  try clear c10b1
                  try clear p11
                  try clear q11
                  try clear hx11
                  try clear qi11
                  try clear c13
                  try clear c13b0
                  try clear c13b1
                  try clear c15
                  try clear c15b0
                  try clear c16
                  try clear c16b0
                  try clear p17
                  try clear q17
                  try clear hx17
                  try clear c18
                  try clear c19
                  try clear c19b0
                  try clear c20
                  try clear c20b0
                  try clear p21
                  try clear q21
                  try clear hx21
                  try clear c22
                  try clear c22b0
                  try clear c22b1
                  try clear c23
                  try clear c23b0
                  try clear c25
                  try clear c25b0
                  try clear c25b1
                  try clear c26
                  try clear c26b0
                  try clear c26b1
                  try clear c27
                  try clear c27b0
                  try clear c27b1
                  try clear c28
                  try clear c28b0
                  try clear c28b1
                  try clear c28b2
                  try clear c29
                  try clear c29b0
                  try clear c30
                  try clear c30b0
                  try clear c31
                  try clear c31b0
                  try clear c31b1
                  try clear c32
                  try clear c32b0
                  try clear c32b1
                  try clear c33
                  try clear c33b0
                  try clear c33b1
                  try clear c33b2
                  try clear p1
                  try clear p11
                  try clear p17
                  try clear p2
                  try clear p21
                  try clear p5
                  try clear p8
                  try clear q1
                  try clear q11
                  try clear q17
                  try clear q21
                  try clear q5
                  try clear q8
                  obtain ⟨x5_2, x6_2, rfl, rfl, HA, HK2, HB⟩ := hrel
                  cases gk with
                  | zero => exact absurd HA.out (by simp [spec_Path.l1])
                  | succ k2 =>
                    have H := HA.out
                    clear HA
                    simp only [spec_Path.l1] at H
                    by_cases c34 : x5_2 < (a0.size : Int)
                    · rw [if_pos c34] at H
                      have c34b0 : decide (x5_2 < (a0.size : Int)) = true := decide_eq_true c34
                      clear c34
                      by_cases c35 : 0 ≤ x5_2
                      · rw [if_pos c35] at H
                        have c35b0 : decide (0 ≤ x5_2) = true := decide_eq_true c35
                        clear c35
                        by_cases c37 : (bt a0 x5_2) = 64
                        · rw [if_pos c37] at H
                          have c37b0 : ((bt a0 x5_2) == 64) = true := beq_iff_eq.mpr c37
                          have c37b1 : ((bt a0 x5_2) != 64) = false := bne_eq_false_iff_eq.mpr c37
                          clear c37
                          have H' := Aside0.mk H
                          clear H
                          have p36 : 0 ≤ (x5_2 : Int) := of_decide_eq_true (by first | (with_reducible assumption) | assumption)
                          have q36 : x5_2 < (a0.size : Int) := of_decide_eq_true (by first | (with_reducible assumption) | assumption)
                          have hx36 := bt_at a0 x5_2
                          replace p36 := eq_true p36
                          replace q36 := eq_true q36
                          go_wp2
                          repeat (go_quiet (fail); try go_wp2)
                          go_meet
                          case rel => exact ⟨_, (x5_2), (x6_2), (by first | rfl | (simp; done) | (simp [*]; done)), (by first | rfl | (simp; done) | (simp [*]; done)), H', ⟨by have := HJ1.out; have := HK2.out; first | omega | exact Nat.le_refl _⟩, ⟨by repeat (first | (with_reducible first | exact HB.out | apply below_alloc | apply pw_below_drewN | apply below_drew1) | exact HB.out)⟩⟩
                        · rw [if_neg c37] at H
                          have c37b0 : ((bt a0 x5_2) == 64) = false := beq_eq_false_iff_ne.mpr c37
                          have c37b1 : ((bt a0 x5_2) != 64) = true := bne_iff_ne.mpr c37
                          replace H := Option.bind_eq_some_iff.mp H
                          obtain ⟨t101, A390, H⟩ := H
                          replace H : (if t101 = true then (spec_Path.j4 k2 a0 x5_2 x6_2) else (if x5_2 ≤ (wrap64 (x5_2 + 1)) then (if (wrap64 (x5_2 + 1)) ≤ (a0.size : Int) then (if x6_2.size + (a0.extract (x5_2 : Int).toNat ((wrap64 (x5_2 + 1)) : Int).toNat).size ≤ 9223372036854775807 then (spec_Path.l1 k2 a0 (wrap64 (x5_2 + 1)) (x6_2 ++ (a0.extract (x5_2 : Int).toNat ((wrap64 (x5_2 + 1)) : Int).toNat))) else (none)) else (none)) else (none))) = some (r1, r2, r3) := H
                          have A39 := Aside0.mk A390
                          clear A390
                          by_cases c40 : t101 = true
                          · subst c40
                            have H1 : (spec_Path.j4 k2 a0 x5_2 x6_2) = some (r1, r2, r3) := by rw [if_pos rfl] at H; exact H
                            clear H
                            have H := H1
                            clear H1
                            have H' := Aside0.mk H
                            clear H
                            have p36 : 0 ≤ (x5_2 : Int) := of_decide_eq_true (by first | (with_reducible assumption) | assumption)
                            have q36 : x5_2 < (a0.size : Int) := of_decide_eq_true (by first | (with_reducible assumption) | assumption)
                            have hx36 := bt_at a0 x5_2
                            replace p36 := eq_true p36
                            replace q36 := eq_true q36
                            have p38 : 0 ≤ (x5_2 : Int) := of_decide_eq_true (by first | (with_reducible assumption) | assumption)
                            have q38 : x5_2 < (a0.size : Int) := of_decide_eq_true (by first | (with_reducible assumption) | assumption)
                            have hx38 := bt_at a0 x5_2
                            replace p38 := eq_true p38
                            replace q38 := eq_true q38
                            go_wp2_with (first | (go_at_call 15; (with_reducible refine (Own.spec_special.calls (bt a0 x5_2) true _ A39.out).mono ?_); rintro e w41 ⟨rfl, hb⟩; have n0_ := Aside0.mk (below_step (by repeat (first | (with_reducible first | exact HB.out | apply below_alloc | apply pw_below_drewN | apply below_drew1) | exact HB.out)) hb); clear HB; have HB := n0_; clear n0_; (try clear hb); (try clear hb2); (try clear hk); (try clear hi)))
                            repeat (go_quiet (first | (go_at_call 15; (with_reducible refine (Own.spec_special.calls (bt a0 x5_2) true _ A39.out).mono ?_); rintro e w41 ⟨rfl, hb⟩; have n0_ := Aside0.mk (below_step (by repeat (first | (with_reducible first | exact HB.out | apply below_alloc | apply pw_below_drewN | apply below_drew1) | exact HB.out)) hb); clear HB; have HB := n0_; clear n0_; (try clear hb); (try clear hb2); (try clear hk); (try clear hi))); try go_wp2_with (first | (go_at_call 15; (with_reducible refine (Own.spec_special.calls (bt a0 x5_2) true _ A39.out).mono ?_); rintro e w41 ⟨rfl, hb⟩; have n0_ := Aside0.mk (below_step (by repeat (first | (with_reducible first | exact HB.out | apply below_alloc | apply pw_below_drewN | apply below_drew1) | exact HB.out)) hb); clear HB; have HB := n0_; clear n0_; (try clear hb); (try clear hb2); (try clear hk); (try clear hi))))
                            go_meet
                            case rel => exact ⟨_, (x5_2), (x6_2), (by first | rfl | (simp; done) | (simp [*]; done)), (by first | rfl | (simp; done) | (simp [*]; done)), H', ⟨by have := HJ1.out; have := HK2.out; first | omega | exact Nat.le_refl _⟩, ⟨by repeat (first | (with_reducible first | exact HB.out | apply below_alloc | apply pw_below_drewN | apply below_drew1) | exact HB.out)⟩⟩
                          · replace c40 := Bool.eq_false_iff.mpr c40
                            subst c40
                            have H1 : (if x5_2 ≤ (wrap64 (x5_2 + 1)) then (if (wrap64 (x5_2 + 1)) ≤ (a0.size : Int) then (if x6_2.size + (a0.extract (x5_2 : Int).toNat ((wrap64 (x5_2 + 1)) : Int).toNat).size ≤ 9223372036854775807 then (spec_Path.l1 k2 a0 (wrap64 (x5_2 + 1)) (x6_2 ++ (a0.extract (x5_2 : Int).toNat ((wrap64 (x5_2 + 1)) : Int).toNat))) else (none)) else (none)) else (none)) = some (r1, r2, r3) := by rw [if_neg (show ¬ (false = true) by decide)] at H; exact H
                            clear H
                            have H := H1
                            clear H1
                            have c42b0 := eq_true (of_decide_eq_true (by first | (with_reducible assumption) | assumption) : 0 ≤ x5_2)
                            by_cases c43 : x5_2 ≤ (wrap64 (x5_2 + 1))
                            · rw [if_pos c43] at H
                              have c43b0 := eq_true c43
                              have c43b1 : decide (x5_2 ≤ (wrap64 (x5_2 + 1))) = true := decide_eq_true c43
                              by_cases c44 : (wrap64 (x5_2 + 1)) ≤ (a0.size : Int)
                              · rw [if_pos c44] at H
                                have c44b0 := eq_true c44
                                have c44b1 : decide ((wrap64 (x5_2 + 1)) ≤ (a0.size : Int)) = true := decide_eq_true c44
                                by_cases c45 : x6_2.size + (a0.extract (x5_2 : Int).toNat ((wrap64 (x5_2 + 1)) : Int).toNat).size ≤ 9223372036854775807
                                · rw [if_pos c45] at H
                                  have c45b0 := eq_true c45
                                  have c45b1 : decide (x6_2.size + (a0.extract (x5_2 : Int).toNat ((wrap64 (x5_2 + 1)) : Int).toNat).size ≤ 9223372036854775807) = true := decide_eq_true c45
                                  try have c45b2 : (9223372036854775807 < x6_2.size + (a0.extract (x5_2 : Int).toNat ((wrap64 (x5_2 + 1)) : Int).toNat).size) = False := eq_false (Nat.not_lt.2 c45)
                                  have H' := Aside0.mk H
                                  clear H
                                  have p36 : 0 ≤ (x5_2 : Int) := of_decide_eq_true (by first | (with_reducible assumption) | assumption)
                                  have q36 : x5_2 < (a0.size : Int) := of_decide_eq_true (by first | (with_reducible assumption) | assumption)
                                  have hx36 := bt_at a0 x5_2
                                  replace p36 := eq_true p36
                                  replace q36 := eq_true q36
                                  have p38 : 0 ≤ (x5_2 : Int) := of_decide_eq_true (by first | (with_reducible assumption) | assumption)
                                  have q38 : x5_2 < (a0.size : Int) := of_decide_eq_true (by first | (with_reducible assumption) | assumption)
                                  have hx38 := bt_at a0 x5_2
                                  replace p38 := eq_true p38
                                  replace q38 := eq_true q38
                                  go_wp2_with (first | (go_at_call 15; (with_reducible refine (Own.spec_special.calls (bt a0 x5_2) false _ A39.out).mono ?_); rintro e w46 ⟨rfl, hb⟩; have n0_ := Aside0.mk (below_step (by repeat (first | (with_reducible first | exact HB.out | apply below_alloc | apply pw_below_drewN | apply below_drew1) | exact HB.out)) hb); clear HB; have HB := n0_; clear n0_; (try clear hb); (try clear hb2); (try clear hk); (try clear hi)))
                                  repeat (go_quiet (first | (go_at_call 15; (with_reducible refine (Own.spec_special.calls (bt a0 x5_2) false _ A39.out).mono ?_); rintro e w46 ⟨rfl, hb⟩; have n0_ := Aside0.mk (below_step (by repeat (first | (with_reducible first | exact HB.out | apply below_alloc | apply pw_below_drewN | apply below_drew1) | exact HB.out)) hb); clear HB; have HB := n0_; clear n0_; (try clear hb); (try clear hb2); (try clear hk); (try clear hi))); try go_wp2_with (first | (go_at_call 15; (with_reducible refine (Own.spec_special.calls (bt a0 x5_2) false _ A39.out).mono ?_); rintro e w46 ⟨rfl, hb⟩; have n0_ := Aside0.mk (below_step (by repeat (first | (with_reducible first | exact HB.out | apply below_alloc | apply pw_below_drewN | apply below_drew1) | exact HB.out)) hb); clear HB; have HB := n0_; clear n0_; (try clear hb); (try clear hb2); (try clear hk); (try clear hi))))
                                  go_roundg k2
                                  case measure => have := HJ1.out; have := HK2.out; omega
                                  case rel => exact ⟨(wrap64 (x5_2 + 1)), (x6_2 ++ (a0.extract (x5_2 : Int).toNat ((wrap64 (x5_2 + 1)) : Int).toNat)), (by first | rfl | (simp; done) | (simp [*]; done)), (by first | rfl | (simp; done) | (simp [*]; done)), H', ⟨by have := HJ1.out; have := HK2.out; omega⟩, ⟨by repeat (first | (with_reducible first | exact HB.out | apply below_alloc | apply pw_below_drewN | apply below_drew1) | exact HB.out)⟩⟩
                                · rw [if_neg c45] at H
                                  exact absurd H (by simp)
                              · rw [if_neg c44] at H
                                exact absurd H (by simp)
                            · rw [if_neg c43] at H
                              exact absurd H (by simp)
                      · rw [if_neg c35] at H
                        exact absurd H (by simp)
                    · rw [if_neg c34] at H
                      have c34b0 : decide (x5_2 < (a0.size : Int)) = false := decide_eq_false c34
                      clear c34
                      have H' := Aside0.mk H
                      clear H
                      go_wp2
                      repeat (go_quiet (fail); try go_wp2)
                      go_meet
                      case rel => exact ⟨_, (x5_2), (x6_2), (by first | rfl | (simp; done) | (simp [*]; done)), (by first | rfl | (simp; done) | (simp [*]; done)), H', ⟨by have := HJ1.out; have := HK2.out; first | omega | exact Nat.le_refl _⟩, ⟨by repeat (first | (with_reducible first | exact HB.out | apply below_alloc | apply pw_below_drewN | apply below_drew1) | exact HB.out)⟩⟩
            case rest =>
              clear HC12
              try clear c1
              try clear p1
              try clear q1
              try clear hx1
              try clear qi1
              try clear c2
              try clear p2
              try clear q2
              try clear hx2
              try clear c3
              try clear c3b0
              try clear c3b1
              try clear p3
              try clear q3
              try clear hx3
              try clear c4
              try clear c4b0
              try clear c4b1
              try clear p5
              try clear q5
              try clear hx5
              try clear qi5
              try clear c6
              try clear p6
              try clear c7
              try clear c7b0
              try clear c7b1
              try clear c8
              try clear p8
              try clear q8
              try clear hx8
              try clear qi8
              try clear c9
              try clear c9b0
              try clear c9b1
              try clear c10
              try clear c10b0
              try clear c10b1
              try clear p11
              try clear q11
              try clear hx11
              try clear qi11
              try clear c13
              try clear c13b0
              try clear c13b1
              try clear c15
              try clear c15b0
              try clear c16
              try clear c16b0
              try clear p17
              try clear q17
              try clear hx17
              try clear c18
              try clear c19
              try clear c19b0
              try clear c20
              try clear c20b0
              try clear p21
              try clear q21
              try clear hx21
              try clear c22
              try clear c22b0
              try clear c22b1
              try clear c23
              try clear c23b0
              try clear c25
              try clear c25b0
              try clear c25b1
              try clear c26
              try clear c26b0
              try clear c26b1
              try clear c27
              try clear c27b0
              try clear c27b1
              try clear c28
              try clear c28b0
              try clear c28b1
              try clear c28b2
              try clear c29
              try clear c29b0
              try clear c30
              try clear c30b0
              try clear c31
              try clear c31b0
              try clear c31b1
              try clear c32
              try clear c32b0
              try clear c32b1
              try clear c33
              try clear c33b0
              try clear c33b1
              try clear c33b2
              try clear c34
              try clear c34b0
              try clear c35
              try clear c35b0
              try clear p36
              try clear q36
              try clear hx36
              try clear c37
              try clear c37b0
              try clear c37b1
              try clear p38
              try clear q38
              try clear hx38
              try clear c40
              try clear c42
              try clear c42b0
              try clear c43
              try clear c43b0
              try clear c43b1
              try clear c44
              try clear c44b0
              try clear c44b1
              try clear c45
              try clear c45b0
              try clear c45b1
              try clear c45b2
              try clear p1
              try clear p11
              try clear p17
              try clear p2
              try clear p21
              try clear p36
              try clear p38
              try clear p5
              try clear p6
              try clear p8
              try clear q1
              try clear q11
              try clear q17
              try clear q2
              try clear q21
              try clear q36
              try clear q38
              try clear q5
              try clear q8
              obtain ⟨kq, x5_11, x6_11, rfl, rfl, HA, HJ11, HB⟩ := hcut
              cases kq with
              | zero => exact absurd HA.out (by simp [spec_Path.j4])
              | succ kj11 =>
                have H := HA.out
                clear HA
                simp only [spec_Path.j4] at H
                have HC47 := Aside0.mk H
                clear H
                go_upto_region 19 with (fail)
                repeat (go_quiet (fail); go_upto_region 19 with (fail))
                go_cut [97] (fun v97 wc => ∃ (kq : Nat) (x97_46 : Bool), v97 = .bool x97_46 ∧ Aside0 (spec_Path.j5 kq a0 x5_11 x6_11 x97_46 = some (r1, r2, r3)) ∧ Aside0 (kq ≤ kj11) ∧ Aside0 (Below w.heap.size w wc))
                case first =>
                  have H := HC47.out
                  clear HC47
                  by_cases c48 : x6_11.toList = ([] : List UInt8)
                  · rw [if_pos c48] at H
                    have c48b0 : (x6_11.toList == ([] : List UInt8)) = true := beq_iff_eq.mpr c48
                    have c48b1 : (x6_11.toList != ([] : List UInt8)) = false := bne_eq_false_iff_eq.mpr c48
                    clear c48
                    (first | rw [c48b0] | (simp only [i64_w, i32_w]; rw [c48b0]) | skip)
                    have H' := Aside0.mk H
                    clear H
                    go_wp2
                    repeat (go_quiet (fail); try go_wp2)
                    go_meet
                    case rel => exact ⟨_, (true), (by first | rfl | (simp; done) | (simp [*]; done)), H', ⟨by have := HJ1.out; have := HJ11.out; first | omega | exact Nat.le_refl _⟩, ⟨by repeat (first | (with_reducible first | exact HB.out | apply below_alloc | apply pw_below_drewN | apply below_drew1) | exact HB.out)⟩⟩
                  · rw [if_neg c48] at H
                    have c48b0 : (x6_11.toList == ([] : List UInt8)) = false := beq_eq_false_iff_ne.mpr c48
                    have c48b1 : (x6_11.toList != ([] : List UInt8)) = true := bne_iff_ne.mpr c48
                    (first | rw [c48b0] | (simp only [i64_w, i32_w]; rw [c48b0]) | skip)
                    by_cases c49 : x5_11 ≥ (a0.size : Int)
                    · rw [if_pos c49] at H
                      have c49b0 : decide ((a0.size : Int) ≤ x5_11) = true := decide_eq_true c49
                      clear c49
                      have H' := Aside0.mk H
                      clear H
                      go_wp2
                      repeat (go_quiet (fail); try go_wp2)
                      go_meet
                      case rel => exact ⟨_, (true), (by first | rfl | (simp; done) | (simp [*]; done)), H', ⟨by have := HJ1.out; have := HJ11.out; first | omega | exact Nat.le_refl _⟩, ⟨by repeat (first | (with_reducible first | exact HB.out | apply below_alloc | apply pw_below_drewN | apply below_drew1) | exact HB.out)⟩⟩
                    · rw [if_neg c49] at H
                      have c49b0 : decide ((a0.size : Int) ≤ x5_11) = false := decide_eq_false c49
                      clear c49
                      by_cases c50 : 0 ≤ x5_11
                      · rw [if_pos c50] at H
                        have c50b0 : decide (0 ≤ x5_11) = true := decide_eq_true c50
                        clear c50
                        by_cases c51 : x5_11 < (a0.size : Int)
                        · rw [if_pos c51] at H
                          have c51b0 : decide (x5_11 < (a0.size : Int)) = true := decide_eq_true c51
                          clear c51
                          have H' := Aside0.mk H
                          clear H
                          have p52 : 0 ≤ (x5_11 : Int) := of_decide_eq_true (by first | (with_reducible assumption) | assumption)
                          have q52 : x5_11 < (a0.size : Int) := of_decide_eq_true (by first | (with_reducible assumption) | assumption)
                          have hx52 := bt_at a0 x5_11
                          replace p52 := eq_true p52
                          replace q52 := eq_true q52
                          go_wp2
                          repeat (go_quiet (fail); try go_wp2)
                          go_meet
                          case rel => exact ⟨_, (((bt a0 x5_11) != 64)), (by first | rfl | (simp; done) | (simp [*]; done)), H', ⟨by have := HJ1.out; have := HJ11.out; first | omega | exact Nat.le_refl _⟩, ⟨by repeat (first | (with_reducible first | exact HB.out | apply below_alloc | apply pw_below_drewN | apply below_drew1) | exact HB.out)⟩⟩
                        · rw [if_neg c51] at H
                          exact absurd H (by simp)
                      · rw [if_neg c50] at H
                        exact absurd H (by simp)
                case rest =>
                  clear HC47
                  try clear c1
                  try clear p1
                  try clear q1
                  try clear hx1
                  try clear qi1
                  try clear c2
                  try clear p2
                  try clear q2
                  try clear hx2
                  try clear c3
                  try clear c3b0
                  try clear c3b1
                  try clear p3
                  try clear q3
                  try clear hx3
                  try clear c4
                  try clear c4b0
                  try clear c4b1
                  try clear c5
                  try clear p5
                  try clear q5
                  try clear hx5
                  try clear qi5
                  try clear c6
                  try clear p6
                  try clear c7
                  try clear c7b0
                  try clear c7b1
                  try clear c8
                  try clear p8
                  try clear q8
                  try clear hx8
                  try clear qi8
                  try clear c9
                  try clear c9b0
                  try clear c9b1
                  try clear c10
                  try clear c10b0
                  try clear c10b1
                  try clear p11
                  try clear q11
                  try clear hx11
                  try clear qi11
                  try clear c13
                  try clear c13b0
                  try clear c13b1
                  try clear c15
                  try clear c15b0
                  try clear c16
                  try clear c16b0
                  try clear p17
                  try clear q17
                  try clear hx17
                  try clear c18
                  try clear c19
                  try clear c19b0
                  try clear c20
                  try clear c20b0
                  try clear p21
                  try clear q21
                  try clear hx21
                  try clear c22
                  try clear c22b0
                  try clear c22b1
                  try clear c23
                  try clear c23b0
                  try clear c25
                  try clear c25b0
                  try clear c25b1
                  try clear c26
                  try clear c26b0
                  try clear c26b1
                  try clear c27
                  try clear c27b0
                  try clear c27b1
                  try clear c28
                  try clear c28b0
                  try clear c28b1
                  try clear c28b2
                  try clear c29
                  try clear c29b0
                  try clear c30
                  try clear c30b0
                  try clear c31
                  try clear c31b0
                  try clear c31b1
                  try clear c32
                  try clear c32b0
                  try clear c32b1
                  try clear c33
                  try clear c33b0
                  try clear c33b1
                  try clear c33b2
                  try clear c34
                  try clear c34b0
                  try clear c35
                  try clear c35b0
                  try clear p36
                  try clear q36
                  try clear hx36
                  try clear c37
                  try clear c37b0
                  try clear c37b1
                  try clear p38
                  try clear q38
                  try clear hx38
                  try clear c40
                  try clear c42
                  try clear c42b0
                  try clear c43
                  try clear c43b0
                  try clear c43b1
                  try clear c44
                  try clear c44b0
                  try clear c44b1
                  try clear c45
                  try clear c45b0
                  try clear c45b1
                  try clear c45b2
                  try clear c48
                  try clear c48b0
                  try clear c48b1
                  try clear c49
                  try clear c49b0
                  try clear c50
                  try clear c50b0
                  try clear c51
                  try clear c51b0
                  try clear p52
                  try clear q52
                  try clear hx52
                  try clear p1
                  try clear p11
                  try clear p17
                  try clear p2
                  try clear p21
                  try clear p3
                  try clear p36
                  try clear p38
                  try clear p5
                  try clear p52
                  try clear p6
                  try clear p8
                  try clear q1
                  try clear q11
                  try clear q17
                  try clear q2
                  try clear q21
                  try clear q3
                  try clear q36
                  try clear q38
                  try clear q5
                  try clear q52
                  try clear q8
                  obtain ⟨kq, x97_46, rfl, HA, HJ46, HB⟩ := hcut
                  cases kq with
                  | zero => exact absurd HA.out (by simp [spec_Path.j5])
                  | succ kj46 =>
                    have H := HA.out
                    clear HA
                    simp only [spec_Path.j5] at H
                    by_cases c53 : x97_46 = true
                    · subst c53
                      have H1 : (some ((⟨#[]⟩ : ByteArray), (⟨#[]⟩ : ByteArray), false)) = some (r1, r2, r3) := by rw [if_pos rfl] at H; exact H
                      clear H
                      have H := H1
                      clear H1
                      simp only [Option.some.injEq, Prod.mk.injEq] at H
                      obtain ⟨rfl, rfl, rfl⟩ := H
                      go_wp2
                      repeat (go_quiet (fail); try go_wp2)
                      go_ret3
                      exact ⟨by first | rfl | (simp [errW_none, errW_some] <;> rfl) | (simp [*, errW_none, errW_some] <;> rfl), by repeat (first | (with_reducible first | exact HB.out | apply below_alloc | apply pw_below_drewN | apply below_drew1) | exact HB.out)⟩
                    · replace c53 := Bool.eq_false_iff.mpr c53
                      subst c53
                      have H1 : (spec_Path.l2 kj46 a0 (wrap64 (x5_11 + 1)) x6_11 (wrap64 (x5_11 + 1))) = some (r1, r2, r3) := by rw [if_neg (show ¬ (false = true) by decide)] at H; exact H
                      clear H
                      have H := H1
                      clear H1
                      have H' := Aside0.mk H
                      clear H
                      go_wp2
                      repeat (go_quiet (fail); try go_wp2)
                      go_loopg [5] kj46 (fun kq v5 w' => ∃ (x5_4 : Int), v5 = .int .i64 x5_4 ∧ Aside0 (spec_Path.l2 kq a0 x5_4 x6_11 (wrap64 (x5_11 + 1)) = some (r1, r2, r3)) ∧ Aside0 (kq ≤ kj46) ∧ Aside0 (Below w.heap.size w w'))
                      case atStart => exact ⟨(wrap64 (x5_11 + 1)), (by first | rfl | (simp; done) | (simp [*]; done)), H', ⟨Nat.le_refl _⟩, ⟨by repeat (first | (with_reducible first | exact HB.out | apply below_alloc | apply pw_below_drewN | apply below_drew1) | exact HB.out)⟩⟩
                      case round =>
                        clear H'
                        try clear c1
                        try clear p1
                        try clear q1
                        try clear hx1
                        try clear qi1
                        try clear c2
                        try clear p2
                        try clear q2
                        try clear hx2
                        try clear c3
                        try clear c3b0
                        try clear c3b1
                        try clear p3
                        try clear q3
                        try clear hx3
                        try clear c4
                        try clear c4b0
                        try clear c4b1
                        try clear c5
                        try clear p5
                        try clear q5
                        try clear hx5
                        try clear qi5
                        try clear c6
                        try clear p6
                        try clear c7
                        try clear c7b0
                        try clear c7b1
                        try clear c8
                        try clear p8
                        try clear q8
                        try clear hx8
                        try clear qi8
                        try clear c9
                        try clear c9b0
                        try clear c9b1
                        try clear c10
                        try clear c10b0
                        try clear c10b1
                        try clear p11
                        try clear q11
                        try clear hx11
                        try clear qi11
                        try clear c13
                        try clear c13b0
                        try clear c13b1
                        try clear c15
                        try clear c15b0
                        try clear c16
                        try clear c16b0
                        try clear p17
                        try clear q17
                        try clear hx17
                        try clear c18
                        try clear c19
                        try clear c19b0
                        try clear c20
                        try clear c20b0
                        try clear p21
                        try clear q21
                        try clear hx21
                        try clear c22
                        try clear c22b0
                        try clear c22b1
                        try clear c23
                        try clear c23b0
                        try clear c25
                        try clear c25b0
                        try clear c25b1
                        try clear c26
                        try clear c26b0
                        try clear c26b1
                        try clear c27
                        try clear c27b0
                        try clear c27b1
                        try clear c28
                        try clear c28b0
                        try clear c28b1
                        try clear c28b2
                        try clear c29
                        try clear c29b0
                        try clear c30
                        try clear c30b0
                        try clear c31
                        try clear c31b0
                        try clear c31b1
                        try clear c32
                        try clear c32b0
                        try clear c32b1
                        try clear c33
                        try clear c33b0
                        try clear c33b1
                        try clear c33b2
                        try clear c34
                        try clear c34b0
                        try clear c35
                        try clear c35b0
                        try clear p36
                        try clear q36
                        try clear hx36
                        try clear c37
                        try clear c37b0
                        try clear c37b1
                        try clear p38
                        try clear q38
                        try clear hx38
                        try clear c40
                        try clear c42
                        try clear c42b0
                        try clear c43
                        try clear c43b0
                        try clear c43b1
                        try clear c44
                        try clear c44b0
                        try clear c44b1
                        try clear c45
                        try clear c45b0
                        try clear c45b1
                        try clear c45b2
                        try clear c48
                        try clear c48b0
                        try clear c48b1
                        try clear c49
                        try clear c49b0
                        try clear c50
                        try clear c50b0
                        try clear c51
                        try clear c51b0
                        try clear p52
                        try clear q52
                        try clear hx52
                        try clear c53
                        try clear p1
                        try clear p11
                        try clear p17
                        try clear p2
                        try clear p21
                        try clear p3
                        try clear p36
                        try clear p38
                        try clear p5
                        try clear p52
                        try clear p6
                        try clear p8
                        try clear q1
                        try clear q11
                        try clear q17
                        try clear q2
                        try clear q21
                        try clear q3
                        try clear q36
                        try clear q38
                        try clear q5
                        try clear q52
                        try clear q8
                        obtain ⟨x5_4, rfl, HA, HK4, HB⟩ := hrel
                        cases gk with
                        | zero => exact absurd HA.out (by simp [spec_Path.l2])
                        | succ k4 =>
                          have H := HA.out
                          clear HA
                          simp only [spec_Path.l2] at H
                          by_cases c54 : x5_4 < (a0.size : Int)
                          · rw [if_pos c54] at H
                            have c54b0 : decide (x5_4 < (a0.size : Int)) = true := decide_eq_true c54
                            clear c54
                            by_cases c55 : 0 ≤ x5_4
                            · rw [if_pos c55] at H
                              have c55b0 : decide (0 ≤ x5_4) = true := decide_eq_true c55
                              clear c55
                              by_cases c57 : (bt a0 x5_4) = 32
                              · rw [if_pos c57] at H
                                have c57b0 : ((bt a0 x5_4) == 32) = true := beq_iff_eq.mpr c57
                                have c57b1 : ((bt a0 x5_4) != 32) = false := bne_eq_false_iff_eq.mpr c57
                                clear c57
                                by_cases c58 : x5_4 = (wrap64 (x5_11 + 1))
                                · rw [if_pos c58] at H
                                  have c58b0 : (x5_4 == (wrap64 (x5_11 + 1))) = true := beq_iff_eq.mpr c58
                                  have c58b1 : (x5_4 != (wrap64 (x5_11 + 1))) = false := bne_eq_false_iff_eq.mpr c58
                                  clear c58
                                  simp only [Option.some.injEq, Prod.mk.injEq] at H
                                  obtain ⟨rfl, rfl, rfl⟩ := H
                                  have p56 : 0 ≤ (x5_4 : Int) := of_decide_eq_true (by first | (with_reducible assumption) | assumption)
                                  have q56 : x5_4 < (a0.size : Int) := of_decide_eq_true (by first | (with_reducible assumption) | assumption)
                                  have hx56 := bt_at a0 x5_4
                                  replace p56 := eq_true p56
                                  replace q56 := eq_true q56
                                  go_wp2
                                  repeat (go_quiet (fail); try go_wp2)
                                  go_ret3
                                  exact ⟨by first | rfl | (simp [errW_none, errW_some] <;> rfl) | (simp [*, errW_none, errW_some] <;> rfl), by repeat (first | (with_reducible first | exact HB.out | apply below_alloc | apply pw_below_drewN | apply below_drew1) | exact HB.out)⟩
                                · rw [if_neg c58] at H
                                  have c58b0 : (x5_4 == (wrap64 (x5_11 + 1))) = false := beq_eq_false_iff_ne.mpr c58
                                  have c58b1 : (x5_4 != (wrap64 (x5_11 + 1))) = true := bne_iff_ne.mpr c58
                                  by_cases c59 : x5_4 = (a0.size : Int)
                                  · rw [if_pos c59] at H
                                    have c59b0 : (x5_4 == (a0.size : Int)) = true := beq_iff_eq.mpr c59
                                    have c59b1 : (x5_4 != (a0.size : Int)) = false := bne_eq_false_iff_eq.mpr c59
                                    clear c59
                                    simp only [Option.some.injEq, Prod.mk.injEq] at H
                                    obtain ⟨rfl, rfl, rfl⟩ := H
                                    have p56 : 0 ≤ (x5_4 : Int) := of_decide_eq_true (by first | (with_reducible assumption) | assumption)
                                    have q56 : x5_4 < (a0.size : Int) := of_decide_eq_true (by first | (with_reducible assumption) | assumption)
                                    have hx56 := bt_at a0 x5_4
                                    replace p56 := eq_true p56
                                    replace q56 := eq_true q56
                                    go_wp2
                                    repeat (go_quiet (fail); try go_wp2)
                                    go_ret3
                                    exact ⟨by first | rfl | (simp [errW_none, errW_some] <;> rfl) | (simp [*, errW_none, errW_some] <;> rfl), by repeat (first | (with_reducible first | exact HB.out | apply below_alloc | apply pw_below_drewN | apply below_drew1) | exact HB.out)⟩
                                  · rw [if_neg c59] at H
                                    have c59b0 : (x5_4 == (a0.size : Int)) = false := beq_eq_false_iff_ne.mpr c59
                                    have c59b1 : (x5_4 != (a0.size : Int)) = true := bne_iff_ne.mpr c59
                                    by_cases c61 : (bt a0 x5_4) = 62
                                    · rw [if_pos c61] at H
                                      have c61b0 : ((bt a0 x5_4) == 62) = true := beq_iff_eq.mpr c61
                                      have c61b1 : ((bt a0 x5_4) != 62) = false := bne_eq_false_iff_eq.mpr c61
                                      clear c61
                                      obtain ⟨ji62, hji62⟩ : ∃ j_ : Int, (wrap64 (x5_11 + 1)) = j_ := ⟨_, rfl⟩
                                      replace H : (if 0 ≤ (ji62) then (if (ji62) ≤ x5_4 then (if x5_4 ≤ (a0.size : Int) then ((spec_domain.f k4 (a0.extract ((ji62) : Int).toNat (x5_4 : Int).toNat)).bind fun t102 => (if t102 = true then (if x6_11.size + 1 ≤ 9223372036854775807 then (if (x6_11 ++ (⟨#[64]⟩ : ByteArray)).size + (a0.extract ((ji62) : Int).toNat (x5_4 : Int).toNat).size ≤ 9223372036854775807 then (if 0 ≤ (wrap64 (x5_4 + 1)) then (if (wrap64 (x5_4 + 1)) ≤ (a0.size : Int) then (some ((x6_11 ++ (⟨#[64]⟩ : ByteArray)) ++ (a0.extract ((ji62) : Int).toNat (x5_4 : Int).toNat), a0.extract ((wrap64 (x5_4 + 1)) : Int).toNat a0.size, true)) else (none)) else (none)) else (none)) else (none)) else (some ((⟨#[]⟩ : ByteArray), (⟨#[]⟩ : ByteArray), false)))) else (none)) else (none)) else (none)) = some (r1, r2, r3) := by first | (rw [hji62] at H; exact H) | (simp only [hji62] at H ⊢; exact H)
                                      (try rw [hji62] at c58b0)
                                      (try rw [hji62] at c58b1)
                                      have hji62w : (IntKind.i64.wrap (x5_11 + 1)) = ji62 := (i64_w _).trans hji62
                                      by_cases c63 : 0 ≤ (ji62)
                                      · rw [if_pos c63] at H
                                        have c63b0 := eq_true c63
                                        have c63b1 : decide (0 ≤ (ji62)) = true := decide_eq_true c63
                                        clear c63
                                        by_cases c64 : (ji62) ≤ x5_4
                                        · rw [if_pos c64] at H
                                          have c64b0 := eq_true c64
                                          have c64b1 : decide ((ji62) ≤ x5_4) = true := decide_eq_true c64
                                          clear c64
                                          by_cases c65 : x5_4 ≤ (a0.size : Int)
                                          · rw [if_pos c65] at H
                                            have c65b0 := eq_true c65
                                            have c65b1 : decide (x5_4 ≤ (a0.size : Int)) = true := decide_eq_true c65
                                            clear c65
                                            replace H := Option.bind_eq_some_iff.mp H
                                            obtain ⟨t102, A660, H⟩ := H
                                            replace H : (if t102 = true then (if x6_11.size + 1 ≤ 9223372036854775807 then (if (x6_11 ++ (⟨#[64]⟩ : ByteArray)).size + (a0.extract ((ji62) : Int).toNat (x5_4 : Int).toNat).size ≤ 9223372036854775807 then (if 0 ≤ (wrap64 (x5_4 + 1)) then (if (wrap64 (x5_4 + 1)) ≤ (a0.size : Int) then (some ((x6_11 ++ (⟨#[64]⟩ : ByteArray)) ++ (a0.extract ((ji62) : Int).toNat (x5_4 : Int).toNat), a0.extract ((wrap64 (x5_4 + 1)) : Int).toNat a0.size, true)) else (none)) else (none)) else (none)) else (none)) else (some ((⟨#[]⟩ : ByteArray), (⟨#[]⟩ : ByteArray), false))) = some (r1, r2, r3) := H
                                            have A66 := Aside0.mk A660
                                            clear A660
                                            by_cases c67 : t102 = true
                                            · subst c67
                                              have H1 : (if x6_11.size + 1 ≤ 9223372036854775807 then (if (x6_11 ++ (⟨#[64]⟩ : ByteArray)).size + (a0.extract ((ji62) : Int).toNat (x5_4 : Int).toNat).size ≤ 9223372036854775807 then (if 0 ≤ (wrap64 (x5_4 + 1)) then (if (wrap64 (x5_4 + 1)) ≤ (a0.size : Int) then (some ((x6_11 ++ (⟨#[64]⟩ : ByteArray)) ++ (a0.extract ((ji62) : Int).toNat (x5_4 : Int).toNat), a0.extract ((wrap64 (x5_4 + 1)) : Int).toNat a0.size, true)) else (none)) else (none)) else (none)) else (none)) = some (r1, r2, r3) := by rw [if_pos rfl] at H; exact H
                                              clear H
                                              have H := H1
                                              clear H1
                                              by_cases c68 : x6_11.size + 1 ≤ 9223372036854775807
                                              · rw [if_pos c68] at H
                                                have c68b0 := eq_true c68
                                                have c68b1 : decide (x6_11.size + 1 ≤ 9223372036854775807) = true := decide_eq_true c68
                                                try have c68b2 : (9223372036854775807 < x6_11.size + 1) = False := eq_false (Nat.not_lt.2 c68)
                                                have c69b0 := eq_true (of_decide_eq_true (by first | (with_reducible assumption) | assumption) : 0 ≤ (ji62))
                                                have c70b0 := eq_true (of_decide_eq_true (by first | (with_reducible assumption) | assumption) : (ji62) ≤ x5_4)
                                                have c71b0 := eq_true (of_decide_eq_true (by first | (with_reducible assumption) | assumption) : x5_4 ≤ (a0.size : Int))
                                                by_cases c72 : (x6_11 ++ (⟨#[64]⟩ : ByteArray)).size + (a0.extract ((ji62) : Int).toNat (x5_4 : Int).toNat).size ≤ 9223372036854775807
                                                · rw [if_pos c72] at H
                                                  have c72b0 := eq_true c72
                                                  have c72b1 : decide ((x6_11 ++ (⟨#[64]⟩ : ByteArray)).size + (a0.extract ((ji62) : Int).toNat (x5_4 : Int).toNat).size ≤ 9223372036854775807) = true := decide_eq_true c72
                                                  try have c72b2 : (9223372036854775807 < (x6_11 ++ (⟨#[64]⟩ : ByteArray)).size + (a0.extract ((ji62) : Int).toNat (x5_4 : Int).toNat).size) = False := eq_false (Nat.not_lt.2 c72)
                                                  obtain ⟨ji73, hji73⟩ : ∃ j_ : Int, (wrap64 (x5_4 + 1)) = j_ := ⟨_, rfl⟩
                                                  replace H : (if 0 ≤ (ji73) then (if (ji73) ≤ (a0.size : Int) then (some ((x6_11 ++ (⟨#[64]⟩ : ByteArray)) ++ (a0.extract ((ji62) : Int).toNat (x5_4 : Int).toNat), a0.extract ((ji73) : Int).toNat a0.size, true)) else (none)) else (none)) = some (r1, r2, r3) := by first | (rw [hji73] at H; exact H) | (simp only [hji73] at H ⊢; exact H)
                                                  (try rw [hji73] at A66)
                                                  have hji73w : (IntKind.i64.wrap (x5_4 + 1)) = ji73 := (i64_w _).trans hji73
                                                  by_cases c74 : 0 ≤ (ji73)
                                                  · rw [if_pos c74] at H
                                                    have c74b0 := eq_true c74
                                                    have c74b1 : decide (0 ≤ (ji73)) = true := decide_eq_true c74
                                                    clear c74
                                                    by_cases c75 : (ji73) ≤ (a0.size : Int)
                                                    · rw [if_pos c75] at H
                                                      have c75b0 := eq_true c75
                                                      have c75b1 : decide ((ji73) ≤ (a0.size : Int)) = true := decide_eq_true c75
                                                      clear c75
                                                      simp only [Option.some.injEq, Prod.mk.injEq] at H
                                                      obtain ⟨rfl, rfl, rfl⟩ := H
                                                      have p56 : 0 ≤ (x5_4 : Int) := of_decide_eq_true (by first | (with_reducible assumption) | assumption)
                                                      have q56 : x5_4 < (a0.size : Int) := of_decide_eq_true (by first | (with_reducible assumption) | assumption)
                                                      have hx56 := bt_at a0 x5_4
                                                      replace p56 := eq_true p56
                                                      replace q56 := eq_true q56
                                                      have p60 : 0 ≤ (x5_4 : Int) := of_decide_eq_true (by first | (with_reducible assumption) | assumption)
                                                      have q60 : x5_4 < (a0.size : Int) := of_decide_eq_true (by first | (with_reducible assumption) | assumption)
                                                      have hx60 := bt_at a0 x5_4
                                                      replace p60 := eq_true p60
                                                      replace q60 := eq_true q60
                                                      go_wp2_with (first | (go_at_call 16; (with_reducible refine (spec_domain.calls k4 (a0.extract ((ji62) : Int).toNat (x5_4 : Int).toNat) true _ A66.out).mono ?_); rintro e w' ⟨rfl, ⟨nd, rfl⟩⟩; (try first | exact ⟨rfl, _, World.drewN_drewN _ _ _⟩ | exact ⟨rfl, _, Eq.trans (World.drewN_drewN _ _ _) (congrArg (World.drewN _) (Nat.add_assoc _ _ _))⟩)))
                                                      repeat (go_quiet (first | (go_at_call 16; (with_reducible refine (spec_domain.calls k4 (a0.extract ((ji62) : Int).toNat (x5_4 : Int).toNat) true _ A66.out).mono ?_); rintro e w' ⟨rfl, ⟨nd, rfl⟩⟩; (try first | exact ⟨rfl, _, World.drewN_drewN _ _ _⟩ | exact ⟨rfl, _, Eq.trans (World.drewN_drewN _ _ _) (congrArg (World.drewN _) (Nat.add_assoc _ _ _))⟩))); try go_wp2_with (first | (go_at_call 16; (with_reducible refine (spec_domain.calls k4 (a0.extract ((ji62) : Int).toNat (x5_4 : Int).toNat) true _ A66.out).mono ?_); rintro e w' ⟨rfl, ⟨nd, rfl⟩⟩; (try first | exact ⟨rfl, _, World.drewN_drewN _ _ _⟩ | exact ⟨rfl, _, Eq.trans (World.drewN_drewN _ _ _) (congrArg (World.drewN _) (Nat.add_assoc _ _ _))⟩))))
                                                      go_ret3
                                                      exact ⟨by first | rfl | (simp [errW_none, errW_some] <;> rfl) | (simp only [← hji62, ← hji73]; first | rfl | (simp [errW_none, errW_some] <;> rfl)) | (simp [*, errW_none, errW_some] <;> rfl), by repeat (first | (with_reducible first | exact HB.out | apply below_alloc | apply pw_below_drewN | apply below_drew1) | exact HB.out)⟩
                                                    · rw [if_neg c75] at H
                                                      exact absurd H (by simp)
                                                  · rw [if_neg c74] at H
                                                    exact absurd H (by simp)
                                                · rw [if_neg c72] at H
                                                  exact absurd H (by simp)
                                              · rw [if_neg c68] at H
                                                exact absurd H (by simp)
                                            · replace c67 := Bool.eq_false_iff.mpr c67
                                              subst c67
                                              have H1 : (some ((⟨#[]⟩ : ByteArray), (⟨#[]⟩ : ByteArray), false)) = some (r1, r2, r3) := by rw [if_neg (show ¬ (false = true) by decide)] at H; exact H
                                              clear H
                                              have H := H1
                                              clear H1
                                              simp only [Option.some.injEq, Prod.mk.injEq] at H
                                              obtain ⟨rfl, rfl, rfl⟩ := H
                                              have p56 : 0 ≤ (x5_4 : Int) := of_decide_eq_true (by first | (with_reducible assumption) | assumption)
                                              have q56 : x5_4 < (a0.size : Int) := of_decide_eq_true (by first | (with_reducible assumption) | assumption)
                                              have hx56 := bt_at a0 x5_4
                                              replace p56 := eq_true p56
                                              replace q56 := eq_true q56
                                              have p60 : 0 ≤ (x5_4 : Int) := of_decide_eq_true (by first | (with_reducible assumption) | assumption)
                                              have q60 : x5_4 < (a0.size : Int) := of_decide_eq_true (by first | (with_reducible assumption) | assumption)
                                              have hx60 := bt_at a0 x5_4
                                              replace p60 := eq_true p60
                                              replace q60 := eq_true q60
                                              go_wp2_with (first | (go_at_call 16; (with_reducible refine (spec_domain.calls k4 (a0.extract ((ji62) : Int).toNat (x5_4 : Int).toNat) false _ A66.out).mono ?_); rintro e w' ⟨rfl, ⟨nd, rfl⟩⟩; (try first | exact ⟨rfl, _, World.drewN_drewN _ _ _⟩ | exact ⟨rfl, _, Eq.trans (World.drewN_drewN _ _ _) (congrArg (World.drewN _) (Nat.add_assoc _ _ _))⟩)))
                                              repeat (go_quiet (first | (go_at_call 16; (with_reducible refine (spec_domain.calls k4 (a0.extract ((ji62) : Int).toNat (x5_4 : Int).toNat) false _ A66.out).mono ?_); rintro e w' ⟨rfl, ⟨nd, rfl⟩⟩; (try first | exact ⟨rfl, _, World.drewN_drewN _ _ _⟩ | exact ⟨rfl, _, Eq.trans (World.drewN_drewN _ _ _) (congrArg (World.drewN _) (Nat.add_assoc _ _ _))⟩))); try go_wp2_with (first | (go_at_call 16; (with_reducible refine (spec_domain.calls k4 (a0.extract ((ji62) : Int).toNat (x5_4 : Int).toNat) false _ A66.out).mono ?_); rintro e w' ⟨rfl, ⟨nd, rfl⟩⟩; (try first | exact ⟨rfl, _, World.drewN_drewN _ _ _⟩ | exact ⟨rfl, _, Eq.trans (World.drewN_drewN _ _ _) (congrArg (World.drewN _) (Nat.add_assoc _ _ _))⟩))))
                                              go_ret3
                                              exact ⟨by first | rfl | (simp [errW_none, errW_some] <;> rfl) | (simp only [← hji62]; first | rfl | (simp [errW_none, errW_some] <;> rfl)) | (simp [*, errW_none, errW_some] <;> rfl), by repeat (first | (with_reducible first | exact HB.out | apply below_alloc | apply pw_below_drewN | apply below_drew1) | exact HB.out)⟩
                                          · rw [if_neg c65] at H
                                            exact absurd H (by simp)
                                        · rw [if_neg c64] at H
                                          exact absurd H (by simp)
                                      · rw [if_neg c63] at H
                                        exact absurd H (by simp)
                                    · rw [if_neg c61] at H
                                      have c61b0 : ((bt a0 x5_4) == 62) = false := beq_eq_false_iff_ne.mpr c61
                                      have c61b1 : ((bt a0 x5_4) != 62) = true := bne_iff_ne.mpr c61
                                      simp only [Option.some.injEq, Prod.mk.injEq] at H
                                      obtain ⟨rfl, rfl, rfl⟩ := H
                                      have p56 : 0 ≤ (x5_4 : Int) := of_decide_eq_true (by first | (with_reducible assumption) | assumption)
                                      have q56 : x5_4 < (a0.size : Int) := of_decide_eq_true (by first | (with_reducible assumption) | assumption)
                                      have hx56 := bt_at a0 x5_4
                                      replace p56 := eq_true p56
                                      replace q56 := eq_true q56
                                      have p60 : 0 ≤ (x5_4 : Int) := of_decide_eq_true (by first | (with_reducible assumption) | assumption)
                                      have q60 : x5_4 < (a0.size : Int) := of_decide_eq_true (by first | (with_reducible assumption) | assumption)
                                      have hx60 := bt_at a0 x5_4
                                      replace p60 := eq_true p60
                                      replace q60 := eq_true q60
                                      go_wp2
                                      repeat (go_quiet (fail); try go_wp2)
                                      go_ret3
                                      exact ⟨by first | rfl | (simp [errW_none, errW_some] <;> rfl) | (simp [*, errW_none, errW_some] <;> rfl), by repeat (first | (with_reducible first | exact HB.out | apply below_alloc | apply pw_below_drewN | apply below_drew1) | exact HB.out)⟩
                              · rw [if_neg c57] at H
                                have c57b0 : ((bt a0 x5_4) == 32) = false := beq_eq_false_iff_ne.mpr c57
                                have c57b1 : ((bt a0 x5_4) != 32) = true := bne_iff_ne.mpr c57
                                by_cases c77 : (bt a0 x5_4) = 62
                                · rw [if_pos c77] at H
                                  have c77b0 : ((bt a0 x5_4) == 62) = true := beq_iff_eq.mpr c77
                                  have c77b1 : ((bt a0 x5_4) != 62) = false := bne_eq_false_iff_eq.mpr c77
                                  clear c77
                                  by_cases c78 : x5_4 = (wrap64 (x5_11 + 1))
                                  · rw [if_pos c78] at H
                                    have c78b0 : (x5_4 == (wrap64 (x5_11 + 1))) = true := beq_iff_eq.mpr c78
                                    have c78b1 : (x5_4 != (wrap64 (x5_11 + 1))) = false := bne_eq_false_iff_eq.mpr c78
                                    clear c78
                                    simp only [Option.some.injEq, Prod.mk.injEq] at H
                                    obtain ⟨rfl, rfl, rfl⟩ := H
                                    have p56 : 0 ≤ (x5_4 : Int) := of_decide_eq_true (by first | (with_reducible assumption) | assumption)
                                    have q56 : x5_4 < (a0.size : Int) := of_decide_eq_true (by first | (with_reducible assumption) | assumption)
                                    have hx56 := bt_at a0 x5_4
                                    replace p56 := eq_true p56
                                    replace q56 := eq_true q56
                                    have p76 : 0 ≤ (x5_4 : Int) := of_decide_eq_true (by first | (with_reducible assumption) | assumption)
                                    have q76 : x5_4 < (a0.size : Int) := of_decide_eq_true (by first | (with_reducible assumption) | assumption)
                                    have hx76 := bt_at a0 x5_4
                                    replace p76 := eq_true p76
                                    replace q76 := eq_true q76
                                    go_wp2
                                    repeat (go_quiet (fail); try go_wp2)
                                    go_ret3
                                    exact ⟨by first | rfl | (simp [errW_none, errW_some] <;> rfl) | (simp [*, errW_none, errW_some] <;> rfl), by repeat (first | (with_reducible first | exact HB.out | apply below_alloc | apply pw_below_drewN | apply below_drew1) | exact HB.out)⟩
                                  · rw [if_neg c78] at H
                                    have c78b0 : (x5_4 == (wrap64 (x5_11 + 1))) = false := beq_eq_false_iff_ne.mpr c78
                                    have c78b1 : (x5_4 != (wrap64 (x5_11 + 1))) = true := bne_iff_ne.mpr c78
                                    by_cases c79 : x5_4 = (a0.size : Int)
                                    · rw [if_pos c79] at H
                                      have c79b0 : (x5_4 == (a0.size : Int)) = true := beq_iff_eq.mpr c79
                                      have c79b1 : (x5_4 != (a0.size : Int)) = false := bne_eq_false_iff_eq.mpr c79
                                      clear c79
                                      simp only [Option.some.injEq, Prod.mk.injEq] at H
                                      obtain ⟨rfl, rfl, rfl⟩ := H
                                      have p56 : 0 ≤ (x5_4 : Int) := of_decide_eq_true (by first | (with_reducible assumption) | assumption)
                                      have q56 : x5_4 < (a0.size : Int) := of_decide_eq_true (by first | (with_reducible assumption) | assumption)
                                      have hx56 := bt_at a0 x5_4
                                      replace p56 := eq_true p56
                                      replace q56 := eq_true q56
                                      have p76 : 0 ≤ (x5_4 : Int) := of_decide_eq_true (by first | (with_reducible assumption) | assumption)
                                      have q76 : x5_4 < (a0.size : Int) := of_decide_eq_true (by first | (with_reducible assumption) | assumption)
                                      have hx76 := bt_at a0 x5_4
                                      replace p76 := eq_true p76
                                      replace q76 := eq_true q76
                                      go_wp2
                                      repeat (go_quiet (fail); try go_wp2)
                                      go_ret3
                                      exact ⟨by first | rfl | (simp [errW_none, errW_some] <;> rfl) | (simp [*, errW_none, errW_some] <;> rfl), by repeat (first | (with_reducible first | exact HB.out | apply below_alloc | apply pw_below_drewN | apply below_drew1) | exact HB.out)⟩
                                    · rw [if_neg c79] at H
                                      have c79b0 : (x5_4 == (a0.size : Int)) = false := beq_eq_false_iff_ne.mpr c79
                                      have c79b1 : (x5_4 != (a0.size : Int)) = true := bne_iff_ne.mpr c79
                                      obtain ⟨ji81, hji81⟩ : ∃ j_ : Int, (wrap64 (x5_11 + 1)) = j_ := ⟨_, rfl⟩
                                      replace H : (if 0 ≤ (ji81) then (if (ji81) ≤ x5_4 then (if x5_4 ≤ (a0.size : Int) then ((spec_domain.f k4 (a0.extract ((ji81) : Int).toNat (x5_4 : Int).toNat)).bind fun t103 => (if t103 = true then (if x6_11.size + 1 ≤ 9223372036854775807 then (if (x6_11 ++ (⟨#[64]⟩ : ByteArray)).size + (a0.extract ((ji81) : Int).toNat (x5_4 : Int).toNat).size ≤ 9223372036854775807 then (if 0 ≤ (wrap64 (x5_4 + 1)) then (if (wrap64 (x5_4 + 1)) ≤ (a0.size : Int) then (some ((x6_11 ++ (⟨#[64]⟩ : ByteArray)) ++ (a0.extract ((ji81) : Int).toNat (x5_4 : Int).toNat), a0.extract ((wrap64 (x5_4 + 1)) : Int).toNat a0.size, true)) else (none)) else (none)) else (none)) else (none)) else (some ((⟨#[]⟩ : ByteArray), (⟨#[]⟩ : ByteArray), false)))) else (none)) else (none)) else (none)) = some (r1, r2, r3) := by first | (rw [hji81] at H; exact H) | (simp only [hji81] at H ⊢; exact H)
                                      (try rw [hji81] at c78b0)
                                      (try rw [hji81] at c78b1)
                                      have hji81w : (IntKind.i64.wrap (x5_11 + 1)) = ji81 := (i64_w _).trans hji81
                                      by_cases c82 : 0 ≤ (ji81)
                                      · rw [if_pos c82] at H
                                        have c82b0 := eq_true c82
                                        have c82b1 : decide (0 ≤ (ji81)) = true := decide_eq_true c82
                                        clear c82
                                        by_cases c83 : (ji81) ≤ x5_4
                                        · rw [if_pos c83] at H
                                          have c83b0 := eq_true c83
                                          have c83b1 : decide ((ji81) ≤ x5_4) = true := decide_eq_true c83
                                          clear c83
                                          by_cases c84 : x5_4 ≤ (a0.size : Int)
                                          · rw [if_pos c84] at H
                                            have c84b0 := eq_true c84
                                            have c84b1 : decide (x5_4 ≤ (a0.size : Int)) = true := decide_eq_true c84
                                            clear c84
                                            replace H := Option.bind_eq_some_iff.mp H
                                            obtain ⟨t103, A850, H⟩ := H
                                            replace H : (if t103 = true then (if x6_11.size + 1 ≤ 9223372036854775807 then (if (x6_11 ++ (⟨#[64]⟩ : ByteArray)).size + (a0.extract ((ji81) : Int).toNat (x5_4 : Int).toNat).size ≤ 9223372036854775807 then (if 0 ≤ (wrap64 (x5_4 + 1)) then (if (wrap64 (x5_4 + 1)) ≤ (a0.size : Int) then (some ((x6_11 ++ (⟨#[64]⟩ : ByteArray)) ++ (a0.extract ((ji81) : Int).toNat (x5_4 : Int).toNat), a0.extract ((wrap64 (x5_4 + 1)) : Int).toNat a0.size, true)) else (none)) else (none)) else (none)) else (none)) else (some ((⟨#[]⟩ : ByteArray), (⟨#[]⟩ : ByteArray), false))) = some (r1, r2, r3) := H
                                            have A85 := Aside0.mk A850
                                            clear A850
                                            by_cases c86 : t103 = true
                                            · subst c86
                                              have H1 : (if x6_11.size + 1 ≤ 9223372036854775807 then (if (x6_11 ++ (⟨#[64]⟩ : ByteArray)).size + (a0.extract ((ji81) : Int).toNat (x5_4 : Int).toNat).size ≤ 9223372036854775807 then (if 0 ≤ (wrap64 (x5_4 + 1)) then (if (wrap64 (x5_4 + 1)) ≤ (a0.size : Int) then (some ((x6_11 ++ (⟨#[64]⟩ : ByteArray)) ++ (a0.extract ((ji81) : Int).toNat (x5_4 : Int).toNat), a0.extract ((wrap64 (x5_4 + 1)) : Int).toNat a0.size, true)) else (none)) else (none)) else (none)) else (none)) = some (r1, r2, r3) := by rw [if_pos rfl] at H; exact H
                                              clear H
                                              have H := H1
                                              clear H1
                                              by_cases c87 : x6_11.size + 1 ≤ 9223372036854775807
                                              · rw [if_pos c87] at H
                                                have c87b0 := eq_true c87
                                                have c87b1 : decide (x6_11.size + 1 ≤ 9223372036854775807) = true := decide_eq_true c87
                                                try have c87b2 : (9223372036854775807 < x6_11.size + 1) = False := eq_false (Nat.not_lt.2 c87)
                                                have c88b0 := eq_true (of_decide_eq_true (by first | (with_reducible assumption) | assumption) : 0 ≤ (ji81))
                                                have c89b0 := eq_true (of_decide_eq_true (by first | (with_reducible assumption) | assumption) : (ji81) ≤ x5_4)
                                                have c90b0 := eq_true (of_decide_eq_true (by first | (with_reducible assumption) | assumption) : x5_4 ≤ (a0.size : Int))
                                                by_cases c91 : (x6_11 ++ (⟨#[64]⟩ : ByteArray)).size + (a0.extract ((ji81) : Int).toNat (x5_4 : Int).toNat).size ≤ 9223372036854775807
                                                · rw [if_pos c91] at H
                                                  have c91b0 := eq_true c91
                                                  have c91b1 : decide ((x6_11 ++ (⟨#[64]⟩ : ByteArray)).size + (a0.extract ((ji81) : Int).toNat (x5_4 : Int).toNat).size ≤ 9223372036854775807) = true := decide_eq_true c91
                                                  try have c91b2 : (9223372036854775807 < (x6_11 ++ (⟨#[64]⟩ : ByteArray)).size + (a0.extract ((ji81) : Int).toNat (x5_4 : Int).toNat).size) = False := eq_false (Nat.not_lt.2 c91)
                                                  obtain ⟨ji92, hji92⟩ : ∃ j_ : Int, (wrap64 (x5_4 + 1)) = j_ := ⟨_, rfl⟩
                                                  replace H : (if 0 ≤ (ji92) then (if (ji92) ≤ (a0.size : Int) then (some ((x6_11 ++ (⟨#[64]⟩ : ByteArray)) ++ (a0.extract ((ji81) : Int).toNat (x5_4 : Int).toNat), a0.extract ((ji92) : Int).toNat a0.size, true)) else (none)) else (none)) = some (r1, r2, r3) := by first | (rw [hji92] at H; exact H) | (simp only [hji92] at H ⊢; exact H)
                                                  (try rw [hji92] at A85)
                                                  have hji92w : (IntKind.i64.wrap (x5_4 + 1)) = ji92 := (i64_w _).trans hji92
                                                  by_cases c93 : 0 ≤ (ji92)
                                                  · rw [if_pos c93] at H
                                                    have c93b0 := eq_true c93
                                                    have c93b1 : decide (0 ≤ (ji92)) = true := decide_eq_true c93
                                                    clear c93
                                                    by_cases c94 : (ji92) ≤ (a0.size : Int)
                                                    · rw [if_pos c94] at H
                                                      have c94b0 := eq_true c94
                                                      have c94b1 : decide ((ji92) ≤ (a0.size : Int)) = true := decide_eq_true c94
                                                      clear c94
                                                      simp only [Option.some.injEq, Prod.mk.injEq] at H
                                                      obtain ⟨rfl, rfl, rfl⟩ := H
                                                      have p56 : 0 ≤ (x5_4 : Int) := of_decide_eq_true (by first | (with_reducible assumption) | assumption)
                                                      have q56 : x5_4 < (a0.size : Int) := of_decide_eq_true (by first | (with_reducible assumption) | assumption)
                                                      have hx56 := bt_at a0 x5_4
                                                      replace p56 := eq_true p56
                                                      replace q56 := eq_true q56
                                                      have p76 : 0 ≤ (x5_4 : Int) := of_decide_eq_true (by first | (with_reducible assumption) | assumption)
                                                      have q76 : x5_4 < (a0.size : Int) := of_decide_eq_true (by first | (with_reducible assumption) | assumption)
                                                      have hx76 := bt_at a0 x5_4
                                                      replace p76 := eq_true p76
                                                      replace q76 := eq_true q76
                                                      have p80 : 0 ≤ (x5_4 : Int) := of_decide_eq_true (by first | (with_reducible assumption) | assumption)
                                                      have q80 : x5_4 < (a0.size : Int) := of_decide_eq_true (by first | (with_reducible assumption) | assumption)
                                                      have hx80 := bt_at a0 x5_4
                                                      replace p80 := eq_true p80
                                                      replace q80 := eq_true q80
                                                      go_wp2_with (first | (go_at_call 16; (with_reducible refine (spec_domain.calls k4 (a0.extract ((ji81) : Int).toNat (x5_4 : Int).toNat) true _ A85.out).mono ?_); rintro e w' ⟨rfl, ⟨nd, rfl⟩⟩; (try first | exact ⟨rfl, _, World.drewN_drewN _ _ _⟩ | exact ⟨rfl, _, Eq.trans (World.drewN_drewN _ _ _) (congrArg (World.drewN _) (Nat.add_assoc _ _ _))⟩)))
                                                      repeat (go_quiet (first | (go_at_call 16; (with_reducible refine (spec_domain.calls k4 (a0.extract ((ji81) : Int).toNat (x5_4 : Int).toNat) true _ A85.out).mono ?_); rintro e w' ⟨rfl, ⟨nd, rfl⟩⟩; (try first | exact ⟨rfl, _, World.drewN_drewN _ _ _⟩ | exact ⟨rfl, _, Eq.trans (World.drewN_drewN _ _ _) (congrArg (World.drewN _) (Nat.add_assoc _ _ _))⟩))); try go_wp2_with (first | (go_at_call 16; (with_reducible refine (spec_domain.calls k4 (a0.extract ((ji81) : Int).toNat (x5_4 : Int).toNat) true _ A85.out).mono ?_); rintro e w' ⟨rfl, ⟨nd, rfl⟩⟩; (try first | exact ⟨rfl, _, World.drewN_drewN _ _ _⟩ | exact ⟨rfl, _, Eq.trans (World.drewN_drewN _ _ _) (congrArg (World.drewN _) (Nat.add_assoc _ _ _))⟩))))
                                                      go_ret3
                                                      exact ⟨by first | rfl | (simp [errW_none, errW_some] <;> rfl) | (simp only [← hji81, ← hji92]; first | rfl | (simp [errW_none, errW_some] <;> rfl)) | (simp [*, errW_none, errW_some] <;> rfl), by repeat (first | (with_reducible first | exact HB.out | apply below_alloc | apply pw_below_drewN | apply below_drew1) | exact HB.out)⟩
                                                    · rw [if_neg c94] at H
                                                      exact absurd H (by simp)
                                                  · rw [if_neg c93] at H
                                                    exact absurd H (by simp)
                                                · rw [if_neg c91] at H
                                                  exact absurd H (by simp)
                                              · rw [if_neg c87] at H
                                                exact absurd H (by simp)
                                            · replace c86 := Bool.eq_false_iff.mpr c86
                                              subst c86
                                              have H1 : (some ((⟨#[]⟩ : ByteArray), (⟨#[]⟩ : ByteArray), false)) = some (r1, r2, r3) := by rw [if_neg (show ¬ (false = true) by decide)] at H; exact H
                                              clear H
                                              have H := H1
                                              clear H1
                                              simp only [Option.some.injEq, Prod.mk.injEq] at H
                                              obtain ⟨rfl, rfl, rfl⟩ := H
                                              have p56 : 0 ≤ (x5_4 : Int) := of_decide_eq_true (by first | (with_reducible assumption) | assumption)
                                              have q56 : x5_4 < (a0.size : Int) := of_decide_eq_true (by first | (with_reducible assumption) | assumption)
                                              have hx56 := bt_at a0 x5_4
                                              replace p56 := eq_true p56
                                              replace q56 := eq_true q56
                                              have p76 : 0 ≤ (x5_4 : Int) := of_decide_eq_true (by first | (with_reducible assumption) | assumption)
                                              have q76 : x5_4 < (a0.size : Int) := of_decide_eq_true (by first | (with_reducible assumption) | assumption)
                                              have hx76 := bt_at a0 x5_4
                                              replace p76 := eq_true p76
                                              replace q76 := eq_true q76
                                              have p80 : 0 ≤ (x5_4 : Int) := of_decide_eq_true (by first | (with_reducible assumption) | assumption)
                                              have q80 : x5_4 < (a0.size : Int) := of_decide_eq_true (by first | (with_reducible assumption) | assumption)
                                              have hx80 := bt_at a0 x5_4
                                              replace p80 := eq_true p80
                                              replace q80 := eq_true q80
                                              go_wp2_with (first | (go_at_call 16; (with_reducible refine (spec_domain.calls k4 (a0.extract ((ji81) : Int).toNat (x5_4 : Int).toNat) false _ A85.out).mono ?_); rintro e w' ⟨rfl, ⟨nd, rfl⟩⟩; (try first | exact ⟨rfl, _, World.drewN_drewN _ _ _⟩ | exact ⟨rfl, _, Eq.trans (World.drewN_drewN _ _ _) (congrArg (World.drewN _) (Nat.add_assoc _ _ _))⟩)))
                                              repeat (go_quiet (first | (go_at_call 16; (with_reducible refine (spec_domain.calls k4 (a0.extract ((ji81) : Int).toNat (x5_4 : Int).toNat) false _ A85.out).mono ?_); rintro e w' ⟨rfl, ⟨nd, rfl⟩⟩; (try first | exact ⟨rfl, _, World.drewN_drewN _ _ _⟩ | exact ⟨rfl, _, Eq.trans (World.drewN_drewN _ _ _) (congrArg (World.drewN _) (Nat.add_assoc _ _ _))⟩))); try go_wp2_with (first | (go_at_call 16; (with_reducible refine (spec_domain.calls k4 (a0.extract ((ji81) : Int).toNat (x5_4 : Int).toNat) false _ A85.out).mono ?_); rintro e w' ⟨rfl, ⟨nd, rfl⟩⟩; (try first | exact ⟨rfl, _, World.drewN_drewN _ _ _⟩ | exact ⟨rfl, _, Eq.trans (World.drewN_drewN _ _ _) (congrArg (World.drewN _) (Nat.add_assoc _ _ _))⟩))))
                                              go_ret3
                                              exact ⟨by first | rfl | (simp [errW_none, errW_some] <;> rfl) | (simp only [← hji81]; first | rfl | (simp [errW_none, errW_some] <;> rfl)) | (simp [*, errW_none, errW_some] <;> rfl), by repeat (first | (with_reducible first | exact HB.out | apply below_alloc | apply pw_below_drewN | apply below_drew1) | exact HB.out)⟩
                                          · rw [if_neg c84] at H
                                            exact absurd H (by simp)
                                        · rw [if_neg c83] at H
                                          exact absurd H (by simp)
                                      · rw [if_neg c82] at H
                                        exact absurd H (by simp)
                                · rw [if_neg c77] at H
                                  have c77b0 : ((bt a0 x5_4) == 62) = false := beq_eq_false_iff_ne.mpr c77
                                  have c77b1 : ((bt a0 x5_4) != 62) = true := bne_iff_ne.mpr c77
                                  have H' := Aside0.mk H
                                  clear H
                                  have p56 : 0 ≤ (x5_4 : Int) := of_decide_eq_true (by first | (with_reducible assumption) | assumption)
                                  have q56 : x5_4 < (a0.size : Int) := of_decide_eq_true (by first | (with_reducible assumption) | assumption)
                                  have hx56 := bt_at a0 x5_4
                                  replace p56 := eq_true p56
                                  replace q56 := eq_true q56
                                  have p76 : 0 ≤ (x5_4 : Int) := of_decide_eq_true (by first | (with_reducible assumption) | assumption)
                                  have q76 : x5_4 < (a0.size : Int) := of_decide_eq_true (by first | (with_reducible assumption) | assumption)
                                  have hx76 := bt_at a0 x5_4
                                  replace p76 := eq_true p76
                                  replace q76 := eq_true q76
                                  go_wp2
                                  repeat (go_quiet (fail); try go_wp2)
                                  go_roundg k4
                                  case measure => have := HJ1.out; have := HJ11.out; have := HJ46.out; have := HK4.out; omega
                                  case rel => exact ⟨(wrap64 (x5_4 + 1)), (by first | rfl | (simp; done) | (simp [*]; done)), H', ⟨by have := HJ1.out; have := HJ11.out; have := HJ46.out; have := HK4.out; omega⟩, ⟨by repeat (first | (with_reducible first | exact HB.out | apply below_alloc | apply pw_below_drewN | apply below_drew1) | exact HB.out)⟩⟩
                            · rw [if_neg c55] at H
                              exact absurd H (by simp)
                          · rw [if_neg c54] at H
                            have c54b0 : decide (x5_4 < (a0.size : Int)) = false := decide_eq_false c54
                            clear c54
                            by_cases c95 : x5_4 = (wrap64 (x5_11 + 1))
                            · rw [if_pos c95] at H
                              have c95b0 : (x5_4 == (wrap64 (x5_11 + 1))) = true := beq_iff_eq.mpr c95
                              have c95b1 : (x5_4 != (wrap64 (x5_11 + 1))) = false := bne_eq_false_iff_eq.mpr c95
                              clear c95
                              simp only [Option.some.injEq, Prod.mk.injEq] at H
                              obtain ⟨rfl, rfl, rfl⟩ := H
                              go_wp2
                              repeat (go_quiet (fail); try go_wp2)
                              go_ret3
                              exact ⟨by first | rfl | (simp [errW_none, errW_some] <;> rfl) | (simp [*, errW_none, errW_some] <;> rfl), by repeat (first | (with_reducible first | exact HB.out | apply below_alloc | apply pw_below_drewN | apply below_drew1) | exact HB.out)⟩
                            · rw [if_neg c95] at H
                              have c95b0 : (x5_4 == (wrap64 (x5_11 + 1))) = false := beq_eq_false_iff_ne.mpr c95
                              have c95b1 : (x5_4 != (wrap64 (x5_11 + 1))) = true := bne_iff_ne.mpr c95
                              by_cases c96 : x5_4 = (a0.size : Int)
                              · rw [if_pos c96] at H
                                have c96b0 : (x5_4 == (a0.size : Int)) = true := beq_iff_eq.mpr c96
                                have c96b1 : (x5_4 != (a0.size : Int)) = false := bne_eq_false_iff_eq.mpr c96
                                clear c96
                                simp only [Option.some.injEq, Prod.mk.injEq] at H
                                obtain ⟨rfl, rfl, rfl⟩ := H
                                go_wp2
                                repeat (go_quiet (fail); try go_wp2)
                                go_ret3
                                exact ⟨by first | rfl | (simp [errW_none, errW_some] <;> rfl) | (simp [*, errW_none, errW_some] <;> rfl), by repeat (first | (with_reducible first | exact HB.out | apply below_alloc | apply pw_below_drewN | apply below_drew1) | exact HB.out)⟩
                              · rw [if_neg c96] at H
                                have c96b0 : (x5_4 == (a0.size : Int)) = false := beq_eq_false_iff_ne.mpr c96
                                have c96b1 : (x5_4 != (a0.size : Int)) = true := bne_iff_ne.mpr c96
                                by_cases c97 : 0 ≤ x5_4
                                · rw [if_pos c97] at H
                                  exact absurd H (by simp)
                                · rw [if_neg c97] at H
                                  exact absurd H (by simp)
        · rw [if_neg c7] at H
          exact absurd H (by simp)

end Go.Proofs.YtldiamldbpobgaaGreatDoor.PPath
