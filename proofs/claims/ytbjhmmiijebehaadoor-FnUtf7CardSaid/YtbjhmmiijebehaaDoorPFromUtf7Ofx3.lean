-- Printed for this claim by a copy of the kit's print that takes hand-proved callees (wip/patch_print.py).
import Derived.Test.YtbjhmmiijebehaaDoorPFromUtf7Ofx0
import Derived.Test.YtbjhmmiijebehaaDoorPFromUtf7Ofx2
namespace Go.Proofs.YtbjhmmiijebehaaDoor.PFromUtf7Of
open Go.RowKit Go.Proofs.YtbjhmmiijebehaaDoorW.PrintWords Go.Proofs.YtbjhmmiijebehaaDoorW.PrintLast Go.Proofs.YtbjhmmiijebehaaDoorW.PrintMore
attribute [local go_sem] max2_int min2_int max_two min_two max_three min_three max_four min_four   -- for this text's walks alone
set_option linter.unusedVariables false
set_option linter.unusedSimpArgs false

/-! ### spec_FromUtf7Of: function 5 -/
mutual
def spec_FromUtf7Of.l0 : Nat → ByteArray → List Int → Bool → Int → Option (ByteArray × Bool)
  | 0, _, _, _, _ => none
  | k + 1, x0, x4, x5, x6 => if x6 < (x0.size : Int) then (if 0 ≤ x6 then (if (bt x0 x6) < 32 then (spec_FromUtf7Of.j1 k x0 x4 x5 x6 true) else (spec_FromUtf7Of.j1 k x0 x4 x5 x6 (decide ((bt x0 x6) > 126)))) else (none)) else (some (runesBytes x4, true))
def spec_FromUtf7Of.j1 : Nat → ByteArray → List Int → Bool → Int → Bool → Option (ByteArray × Bool)
  | 0, _, _, _, _, _ => none
  | k + 1, x0, x4, x5, x6, x25 => if x25 = true then (some ((⟨#[]⟩ : ByteArray), false)) else (if 0 ≤ x6 then (if x6 < (x0.size : Int) then (if (bt x0 x6) = 38 then (spec_FromUtf7Of.l1 k x0 x4 x5 x6 (wrap64 (x6 + 1))) else (if x4.length < 35184372088832 then (spec_FromUtf7Of.l0 k x0 (x4 ++ [wrap32 (bt x0 x6)]) false (wrap64 (x6 + 1))) else (none))) else (none)) else (none))
def spec_FromUtf7Of.j3 : Nat → ByteArray → List Int → Bool → Int → Int → Option (ByteArray × Bool)
  | 0, _, _, _, _, _ => none
  | k + 1, x0, x4, x5, x6, x7 => if x7 = (x0.size : Int) then (some ((⟨#[]⟩ : ByteArray), false)) else (if x7 = (wrap64 (x6 + 1)) then (if x4.length < 35184372088832 then (spec_FromUtf7Of.l0 k x0 (x4 ++ [38]) false (wrap64 (x7 + 1))) else (none)) else (if 0 ≤ (wrap64 (x6 + 1)) then (if (wrap64 (x6 + 1)) ≤ x7 then (if x7 ≤ (x0.size : Int) then ((spec_units9.f k (x0.extract ((wrap64 (x6 + 1)) : Int).toNat (x7 : Int).toNat)).bind fun bt121 => (if bt121.2 = true then (if x5 = true then (some ((⟨#[]⟩ : ByteArray), false)) else (if x4.length + bt121.1.length < 35184372088832 then (spec_FromUtf7Of.l0 k x0 (x4 ++ bt121.1) true (wrap64 (x7 + 1))) else (none))) else (some ((⟨#[]⟩ : ByteArray), false)))) else (none)) else (none)) else (none)))
def spec_FromUtf7Of.l1 : Nat → ByteArray → List Int → Bool → Int → Int → Option (ByteArray × Bool)
  | 0, _, _, _, _, _ => none
  | k + 1, x0, x4, x5, x6, x7 => if x7 < (x0.size : Int) then (if 0 ≤ x7 then (if (bt x0 x7) = 45 then (spec_FromUtf7Of.j3 k x0 x4 x5 x6 x7) else (spec_FromUtf7Of.l1 k x0 x4 x5 x6 (wrap64 (x7 + 1)))) else (none)) else (spec_FromUtf7Of.j3 k x0 x4 x5 x6 x7)
end
def spec_FromUtf7Of.f (k : Nat) (a0 : ByteArray) : Option (ByteArray × Bool) := spec_FromUtf7Of.l0 k a0 ([] : List Int) false 0
theorem spec_FromUtf7Of.mono_l : ∀ k, (∀ y0 y1 y2 y3, LeO (spec_FromUtf7Of.l0 k y0 y1 y2 y3) (spec_FromUtf7Of.l0 (k + 1) y0 y1 y2 y3)) ∧ (∀ y0 y1 y2 y3 y4, LeO (spec_FromUtf7Of.j1 k y0 y1 y2 y3 y4) (spec_FromUtf7Of.j1 (k + 1) y0 y1 y2 y3 y4)) ∧ (∀ y0 y1 y2 y3 y4, LeO (spec_FromUtf7Of.j3 k y0 y1 y2 y3 y4) (spec_FromUtf7Of.j3 (k + 1) y0 y1 y2 y3 y4)) ∧ (∀ y0 y1 y2 y3 y4, LeO (spec_FromUtf7Of.l1 k y0 y1 y2 y3 y4) (spec_FromUtf7Of.l1 (k + 1) y0 y1 y2 y3 y4))
  | 0 => ⟨fun _ _ _ _ r h => by simp [spec_FromUtf7Of.l0] at h, fun _ _ _ _ _ r h => by simp [spec_FromUtf7Of.j1] at h, fun _ _ _ _ _ r h => by simp [spec_FromUtf7Of.j3] at h, fun _ _ _ _ _ r h => by simp [spec_FromUtf7Of.l1] at h⟩
  | k + 1 => by
    obtain ⟨ih0, ih1, ih2, ih3⟩ := spec_FromUtf7Of.mono_l k
    refine ⟨?_, ?_, ?_, ?_⟩
    · intro y0 y1 y2 y3
      unfold spec_FromUtf7Of.l0
      repeat' first
      | (with_reducible exact ih0 _ _ _ _)
      | (with_reducible exact ih1 _ _ _ _ _)
      | (with_reducible exact ih2 _ _ _ _ _)
      | (with_reducible exact ih3 _ _ _ _ _)
      | (with_reducible exact spec_units9.mono _ _)
      | (with_reducible exact LeO.refl _)
      | (with_reducible exact LeO.none _)
      | (with_reducible refine LeO.ite ?_ ?_)
      | (with_reducible refine LeO.bind ?_ (fun _ => ?_))
      | exact ih0 _ _ _ _
      | exact ih1 _ _ _ _ _
      | exact ih2 _ _ _ _ _
      | exact ih3 _ _ _ _ _
      | exact spec_units9.mono _ _
      | exact LeO.none _
      | refine LeO.ite ?_ ?_
      | refine LeO.bind ?_ (fun _ => ?_)
    · intro y0 y1 y2 y3 y4
      unfold spec_FromUtf7Of.j1
      repeat' first
      | (with_reducible exact ih0 _ _ _ _)
      | (with_reducible exact ih1 _ _ _ _ _)
      | (with_reducible exact ih2 _ _ _ _ _)
      | (with_reducible exact ih3 _ _ _ _ _)
      | (with_reducible exact spec_units9.mono _ _)
      | (with_reducible exact LeO.refl _)
      | (with_reducible exact LeO.none _)
      | (with_reducible refine LeO.ite ?_ ?_)
      | (with_reducible refine LeO.bind ?_ (fun _ => ?_))
      | exact ih0 _ _ _ _
      | exact ih1 _ _ _ _ _
      | exact ih2 _ _ _ _ _
      | exact ih3 _ _ _ _ _
      | exact spec_units9.mono _ _
      | exact LeO.none _
      | refine LeO.ite ?_ ?_
      | refine LeO.bind ?_ (fun _ => ?_)
    · intro y0 y1 y2 y3 y4
      unfold spec_FromUtf7Of.j3
      repeat' first
      | (with_reducible exact ih0 _ _ _ _)
      | (with_reducible exact ih1 _ _ _ _ _)
      | (with_reducible exact ih2 _ _ _ _ _)
      | (with_reducible exact ih3 _ _ _ _ _)
      | (with_reducible exact spec_units9.mono _ _)
      | (with_reducible exact LeO.refl _)
      | (with_reducible exact LeO.none _)
      | (with_reducible refine LeO.ite ?_ ?_)
      | (with_reducible refine LeO.bind ?_ (fun _ => ?_))
      | exact ih0 _ _ _ _
      | exact ih1 _ _ _ _ _
      | exact ih2 _ _ _ _ _
      | exact ih3 _ _ _ _ _
      | exact spec_units9.mono _ _
      | exact LeO.none _
      | refine LeO.ite ?_ ?_
      | refine LeO.bind ?_ (fun _ => ?_)
    · intro y0 y1 y2 y3 y4
      unfold spec_FromUtf7Of.l1
      repeat' first
      | (with_reducible exact ih0 _ _ _ _)
      | (with_reducible exact ih1 _ _ _ _ _)
      | (with_reducible exact ih2 _ _ _ _ _)
      | (with_reducible exact ih3 _ _ _ _ _)
      | (with_reducible exact spec_units9.mono _ _)
      | (with_reducible exact LeO.refl _)
      | (with_reducible exact LeO.none _)
      | (with_reducible refine LeO.ite ?_ ?_)
      | (with_reducible refine LeO.bind ?_ (fun _ => ?_))
      | exact ih0 _ _ _ _
      | exact ih1 _ _ _ _ _
      | exact ih2 _ _ _ _ _
      | exact ih3 _ _ _ _ _
      | exact spec_units9.mono _ _
      | exact LeO.none _
      | refine LeO.ite ?_ ?_
      | refine LeO.bind ?_ (fun _ => ?_)
theorem spec_FromUtf7Of.mono : ∀ a0 k, LeO (spec_FromUtf7Of.f k a0) (spec_FromUtf7Of.f (k + 1) a0) := by
  intro a0 k
  obtain ⟨ih0, ih1, ih2, ih3⟩ := spec_FromUtf7Of.mono_l k
  unfold spec_FromUtf7Of.f
  repeat' first
      | (with_reducible exact ih0 _ _ _ _)
      | (with_reducible exact ih1 _ _ _ _ _)
      | (with_reducible exact ih2 _ _ _ _ _)
      | (with_reducible exact ih3 _ _ _ _ _)
      | (with_reducible exact spec_units9.mono _ _)
      | (with_reducible exact LeO.refl _)
      | (with_reducible exact LeO.none _)
      | (with_reducible refine LeO.ite ?_ ?_)
      | (with_reducible refine LeO.bind ?_ (fun _ => ?_))
      | exact ih0 _ _ _ _
      | exact ih1 _ _ _ _ _
      | exact ih2 _ _ _ _ _
      | exact ih3 _ _ _ _ _
      | exact spec_units9.mono _ _
      | exact LeO.none _
      | refine LeO.ite ?_ ?_
      | refine LeO.bind ?_ (fun _ => ?_)
set_option maxHeartbeats 8000000 in
set_option maxRecDepth 100000 in
theorem spec_FromUtf7Of.calls (k : Nat) (a0 : ByteArray) (r1 : ByteArray) (r2 : Bool) (w : World) (h : spec_FromUtf7Of.f k a0 = some (r1, r2)) :
    Calls Tryd.prog 5 #[.string a0] w fun e w' => e = .returned (.tuple #[.string r1, .bool r2]) ∧ Below w.heap.size w w' := by
  have HB := Aside0.mk (Below.refl w.heap.size w)
  have H : (spec_FromUtf7Of.l0 k a0 ([] : List Int) false 0) = some (r1, r2) := h
  clear h
  have H' := Aside0.mk H
  clear H
  go_enter Tryd.func5, Tryd.ntmps5
  go_wp2
  go_loopg [4, 5, 6] k (fun kq v4 v5 v6 w' => ∃ (x4_1 : List Int) (x5_1 : Bool) (x6_1 : Int), v5 = .bool x5_1 ∧ v6 = .int .i64 x6_1 ∧ Aside0 (spec_FromUtf7Of.l0 kq a0 x4_1 x5_1 x6_1 = some (r1, r2)) ∧ Aside0 (kq ≤ k) ∧ Aside0 (Kd.R (Kd.int .i32) 21 w' w.heap.size (fun _ => True) v4 x4_1) ∧ Aside0 (Below w.heap.size w w'))
  case atStart => exact ⟨(([] : List Int)), (false), (0), (by first | rfl | (simp; done) | (simp [*]; done)), (by first | rfl | (simp; done) | (simp [*]; done)), H', ⟨Nat.le_refl _⟩, ⟨by first | exact Kd.R_nil _ _ _ _ _ | exact Kd.N_nil _ _ _ _ _ | exact Kd.V_nil _ _ _ _ _ | exact Kd.Q_nil _ _ _ _ _ | exact Kd.S_nil _ _ _ _ _⟩, ⟨by repeat (first | (with_reducible first | exact HB.out | apply below_alloc | apply pw_below_drewN | apply below_drew1) | exact HB.out)⟩⟩
  case round =>
    clear H'
    obtain ⟨x4_1, x5_1, x6_1, rfl, rfl, HA, HK1, HO_4, HB⟩ := hrel
    cases gk with
    | zero => exact absurd HA.out (by simp [spec_FromUtf7Of.l0])
    | succ k1 =>
      have H := HA.out
      clear HA
      simp only [spec_FromUtf7Of.l0] at H
      by_cases c2 : x6_1 < (a0.size : Int)
      · rw [if_pos c2] at H
        have c2b0 : decide (x6_1 < (a0.size : Int)) = true := decide_eq_true c2
        clear c2
        have HC3 := Aside0.mk H
        clear H
        go_upto_region 6 with (fail)
        go_cut [25] (fun v25 wc => ∃ (kq : Nat) (x25_2 : Bool), v25 = .bool x25_2 ∧ Aside0 (spec_FromUtf7Of.j1 kq a0 x4_1 x5_1 x6_1 x25_2 = some (r1, r2)) ∧ Aside0 (kq ≤ k1) ∧ Aside0 (Kd.R (Kd.int .i32) 21 wc w.heap.size (fun _ => True) u4 x4_1) ∧ Aside0 (Below w.heap.size w wc))
        case first =>
          have H := HC3.out
          clear HC3
          by_cases c4 : 0 ≤ x6_1
          · rw [if_pos c4] at H
            have c4b0 : decide (0 ≤ x6_1) = true := decide_eq_true c4
            clear c4
            (first | rw [c4b0] | (simp only [i64_w, i32_w]; rw [c4b0]) | skip)
            by_cases c6 : (bt a0 x6_1) < 32
            · rw [if_pos c6] at H
              have c6b0 : decide ((bt a0 x6_1) < 32) = true := decide_eq_true c6
              clear c6
              have H' := Aside0.mk H
              clear H
              have p5 : 0 ≤ (x6_1 : Int) := of_decide_eq_true (by first | (with_reducible assumption) | assumption)
              have q5 : x6_1 < (a0.size : Int) := of_decide_eq_true (by first | (with_reducible assumption) | assumption)
              have hx5 := bt_at a0 x6_1
              replace p5 := eq_true p5
              replace q5 := eq_true q5
              go_wp2
              go_meet
              case rel => exact ⟨_, (true), (by first | rfl | (simp; done) | (simp [*]; done)), H', ⟨by have := HK1.out; first | omega | exact Nat.le_refl _⟩, ⟨by (with_reducible repeat (first | apply Kd.R_alloc | apply Kd.R_drewN | apply Kd.R_drew)); exact HO_4.out⟩, ⟨by repeat (first | (with_reducible first | exact HB.out | apply below_alloc | apply pw_below_drewN | apply below_drew1) | exact HB.out)⟩⟩
            · rw [if_neg c6] at H
              have c6b0 : decide ((bt a0 x6_1) < 32) = false := decide_eq_false c6
              clear c6
              have H' := Aside0.mk H
              clear H
              have p5 : 0 ≤ (x6_1 : Int) := of_decide_eq_true (by first | (with_reducible assumption) | assumption)
              have q5 : x6_1 < (a0.size : Int) := of_decide_eq_true (by first | (with_reducible assumption) | assumption)
              have hx5 := bt_at a0 x6_1
              replace p5 := eq_true p5
              replace q5 := eq_true q5
              have p7 : 0 ≤ (x6_1 : Int) := of_decide_eq_true (by first | (with_reducible assumption) | assumption)
              have q7 : x6_1 < (a0.size : Int) := of_decide_eq_true (by first | (with_reducible assumption) | assumption)
              have hx7 := bt_at a0 x6_1
              replace p7 := eq_true p7
              replace q7 := eq_true q7
              go_wp2
              go_meet
              case rel => exact ⟨_, (decide ((bt a0 x6_1) > 126)), (by first | rfl | (simp; done) | (simp [*]; done)), H', ⟨by have := HK1.out; first | omega | exact Nat.le_refl _⟩, ⟨by (with_reducible repeat (first | apply Kd.R_alloc | apply Kd.R_drewN | apply Kd.R_drew)); exact HO_4.out⟩, ⟨by repeat (first | (with_reducible first | exact HB.out | apply below_alloc | apply pw_below_drewN | apply below_drew1) | exact HB.out)⟩⟩
          · rw [if_neg c4] at H
            exact absurd H (by simp)
        case rest =>
          clear HC3
          try clear c2
          try clear c2b0
          try clear p2
          try clear c4
          try clear c4b0
          try clear c5
          try clear p5
          try clear q5
          try clear hx5
          try clear c6
          try clear c6b0
          try clear p7
          try clear q7
          try clear hx7
          try clear p5
          try clear p7
          try clear q5
          try clear q7
          obtain ⟨kq, x25_2, rfl, HA, HJ2, HO_4, HB⟩ := hcut
          cases kq with
          | zero => exact absurd HA.out (by simp [spec_FromUtf7Of.j1])
          | succ kj2 =>
            have H := HA.out
            clear HA
            simp only [spec_FromUtf7Of.j1] at H
            by_cases c8 : x25_2 = true
            · subst c8
              have H1 : (some ((⟨#[]⟩ : ByteArray), false)) = some (r1, r2) := by rw [if_pos rfl] at H; exact H
              clear H
              have H := H1
              clear H1
              simp only [Option.some.injEq, Prod.mk.injEq] at H
              obtain ⟨rfl, rfl⟩ := H
              go_wp2
              go_ret2
              exact ⟨by first | rfl | (simp [errW_none, errW_some] <;> rfl) | (simp [*, errW_none, errW_some] <;> rfl), by repeat (first | (with_reducible first | exact HB.out | apply below_alloc | apply pw_below_drewN | apply below_drew1) | exact HB.out)⟩
            · replace c8 := Bool.eq_false_iff.mpr c8
              subst c8
              have H1 : (if 0 ≤ x6_1 then (if x6_1 < (a0.size : Int) then (if (bt a0 x6_1) = 38 then (spec_FromUtf7Of.l1 kj2 a0 x4_1 x5_1 x6_1 (wrap64 (x6_1 + 1))) else (if x4_1.length < 35184372088832 then (spec_FromUtf7Of.l0 kj2 a0 (x4_1 ++ [wrap32 (bt a0 x6_1)]) false (wrap64 (x6_1 + 1))) else (none))) else (none)) else (none)) = some (r1, r2) := by rw [if_neg (show ¬ (false = true) by decide)] at H; exact H
              clear H
              have H := H1
              clear H1
              by_cases c9 : 0 ≤ x6_1
              · rw [if_pos c9] at H
                have c9b0 : decide (0 ≤ x6_1) = true := decide_eq_true c9
                clear c9
                by_cases c10 : x6_1 < (a0.size : Int)
                · rw [if_pos c10] at H
                  have c10b0 : decide (x6_1 < (a0.size : Int)) = true := decide_eq_true c10
                  clear c10
                  by_cases c12 : (bt a0 x6_1) = 38
                  · rw [if_pos c12] at H
                    have c12b0 : ((bt a0 x6_1) == 38) = true := beq_iff_eq.mpr c12
                    have c12b1 : ((bt a0 x6_1) != 38) = false := bne_eq_false_iff_eq.mpr c12
                    clear c12
                    have HC13 := Aside0.mk H
                    clear H
                    have p11 : 0 ≤ (x6_1 : Int) := of_decide_eq_true (by first | (with_reducible assumption) | assumption)
                    have q11 : x6_1 < (a0.size : Int) := of_decide_eq_true (by first | (with_reducible assumption) | assumption)
                    have hx11 := bt_at a0 x6_1
                    replace p11 := eq_true p11
                    replace q11 := eq_true q11
                    go_upto_block 2 with (fail)
                    go_cut [7] (fun v7 wc => ∃ (kq : Nat) (x7_12 : Int), v7 = .int .i64 x7_12 ∧ Aside0 (spec_FromUtf7Of.j3 kq a0 x4_1 x5_1 x6_1 x7_12 = some (r1, r2)) ∧ Aside0 (kq ≤ kj2) ∧ Aside0 (Kd.R (Kd.int .i32) 21 wc w.heap.size (fun _ => True) u4 x4_1) ∧ Aside0 (Below w.heap.size w wc))
                    case first =>
                      have H := HC13.out
                      clear HC13
                      have H' := Aside0.mk H
                      clear H
                      go_wp2
                      go_loopg [7] kj2 (fun kq v7 w' => ∃ (x7_3 : Int), v7 = .int .i64 x7_3 ∧ Aside0 (spec_FromUtf7Of.l1 kq a0 x4_1 x5_1 x6_1 x7_3 = some (r1, r2)) ∧ Aside0 (kq ≤ kj2) ∧ Aside0 (Kd.R (Kd.int .i32) 21 w' w.heap.size (fun _ => True) u4 x4_1) ∧ Aside0 (Below w.heap.size w w'))
                      case atStart => exact ⟨(wrap64 (x6_1 + 1)), (by first | rfl | (simp; done) | (simp [*]; done)), H', ⟨Nat.le_refl _⟩, ⟨by (with_reducible repeat (first | apply Kd.R_alloc | apply Kd.R_drewN | apply Kd.R_drew)); exact HO_4.out⟩, ⟨by repeat (first | (with_reducible first | exact HB.out | apply below_alloc | apply pw_below_drewN | apply below_drew1) | exact HB.out)⟩⟩
                      case round =>
                        clear H'
                        try clear c1
                        try clear p1
                        try clear q1
                        try clear hx1
                        try clear c2
                        try clear c2b0
                        try clear p2
                        try clear p3
                        try clear c4
                        try clear c4b0
                        try clear c5
                        try clear p5
                        try clear q5
                        try clear hx5
                        try clear c6
                        try clear c6b0
                        try clear p6
                        try clear p7
                        try clear q7
                        try clear hx7
                        try clear c8
                        try clear c9
                        try clear c9b0
                        try clear c10
                        try clear c10b0
                        try clear p11
                        try clear q11
                        try clear hx11
                        try clear c12
                        try clear c12b0
                        try clear c12b1
                        try clear p11
                        try clear p2
                        try clear p5
                        try clear p7
                        try clear q11
                        try clear q5
                        try clear q7
                        obtain ⟨x7_3, rfl, HA, HK3, HO_4, HB⟩ := hrel
                        cases gk with
                        | zero => exact absurd HA.out (by simp [spec_FromUtf7Of.l1])
                        | succ k3 =>
                          have H := HA.out
                          clear HA
                          simp only [spec_FromUtf7Of.l1] at H
                          by_cases c14 : x7_3 < (a0.size : Int)
                          · rw [if_pos c14] at H
                            have c14b0 : decide (x7_3 < (a0.size : Int)) = true := decide_eq_true c14
                            clear c14
                            (first | rw [c14b0] | (simp only [i64_w, i32_w]; rw [c14b0]) | skip)
                            by_cases c15 : 0 ≤ x7_3
                            · rw [if_pos c15] at H
                              have c15b0 : decide (0 ≤ x7_3) = true := decide_eq_true c15
                              clear c15
                              by_cases c17 : (bt a0 x7_3) = 45
                              · rw [if_pos c17] at H
                                have c17b0 : ((bt a0 x7_3) == 45) = true := beq_iff_eq.mpr c17
                                have c17b1 : ((bt a0 x7_3) != 45) = false := bne_eq_false_iff_eq.mpr c17
                                clear c17
                                have H' := Aside0.mk H
                                clear H
                                have p16 : 0 ≤ (x7_3 : Int) := of_decide_eq_true (by first | (with_reducible assumption) | assumption)
                                have q16 : x7_3 < (a0.size : Int) := of_decide_eq_true (by first | (with_reducible assumption) | assumption)
                                have hx16 := bt_at a0 x7_3
                                replace p16 := eq_true p16
                                replace q16 := eq_true q16
                                go_wp2
                                go_meet
                                case rel => exact ⟨_, (x7_3), (by first | rfl | (simp; done) | (simp [*]; done)), H', ⟨by have := HK1.out; have := HJ2.out; have := HK3.out; first | omega | exact Nat.le_refl _⟩, ⟨by (with_reducible repeat (first | apply Kd.R_alloc | apply Kd.R_drewN | apply Kd.R_drew)); exact HO_4.out⟩, ⟨by repeat (first | (with_reducible first | exact HB.out | apply below_alloc | apply pw_below_drewN | apply below_drew1) | exact HB.out)⟩⟩
                              · rw [if_neg c17] at H
                                have c17b0 : ((bt a0 x7_3) == 45) = false := beq_eq_false_iff_ne.mpr c17
                                have c17b1 : ((bt a0 x7_3) != 45) = true := bne_iff_ne.mpr c17
                                have H' := Aside0.mk H
                                clear H
                                have p16 : 0 ≤ (x7_3 : Int) := of_decide_eq_true (by first | (with_reducible assumption) | assumption)
                                have q16 : x7_3 < (a0.size : Int) := of_decide_eq_true (by first | (with_reducible assumption) | assumption)
                                have hx16 := bt_at a0 x7_3
                                replace p16 := eq_true p16
                                replace q16 := eq_true q16
                                go_wp2
                                go_roundg k3
                                case measure => have := HK1.out; have := HJ2.out; have := HK3.out; omega
                                case rel => exact ⟨(wrap64 (x7_3 + 1)), (by first | rfl | (simp; done) | (simp [*]; done)), H', ⟨by have := HK1.out; have := HJ2.out; have := HK3.out; omega⟩, ⟨by (with_reducible repeat (first | apply Kd.R_alloc | apply Kd.R_drewN | apply Kd.R_drew)); exact HO_4.out⟩, ⟨by repeat (first | (with_reducible first | exact HB.out | apply below_alloc | apply pw_below_drewN | apply below_drew1) | exact HB.out)⟩⟩
                            · rw [if_neg c15] at H
                              exact absurd H (by simp)
                          · rw [if_neg c14] at H
                            have c14b0 : decide (x7_3 < (a0.size : Int)) = false := decide_eq_false c14
                            clear c14
                            (first | rw [c14b0] | (simp only [i64_w, i32_w]; rw [c14b0]) | skip)
                            have H' := Aside0.mk H
                            clear H
                            go_wp2
                            go_meet
                            case rel => exact ⟨_, (x7_3), (by first | rfl | (simp; done) | (simp [*]; done)), H', ⟨by have := HK1.out; have := HJ2.out; have := HK3.out; first | omega | exact Nat.le_refl _⟩, ⟨by (with_reducible repeat (first | apply Kd.R_alloc | apply Kd.R_drewN | apply Kd.R_drew)); exact HO_4.out⟩, ⟨by repeat (first | (with_reducible first | exact HB.out | apply below_alloc | apply pw_below_drewN | apply below_drew1) | exact HB.out)⟩⟩
                    case rest =>
                      clear HC13
                      try clear c1
                      try clear p1
                      try clear q1
                      try clear hx1
                      try clear c2
                      try clear c2b0
                      try clear p2
                      try clear p3
                      try clear c4
                      try clear c4b0
                      try clear c5
                      try clear p5
                      try clear q5
                      try clear hx5
                      try clear c6
                      try clear c6b0
                      try clear p6
                      try clear p7
                      try clear q7
                      try clear hx7
                      try clear c8
                      try clear c9
                      try clear c9b0
                      try clear c10
                      try clear c10b0
                      try clear p11
                      try clear q11
                      try clear hx11
                      try clear c12
                      try clear c12b0
                      try clear c12b1
                      try clear c14
                      try clear c14b0
                      try clear c15
                      try clear c15b0
                      try clear p16
                      try clear q16
                      try clear hx16
                      try clear c17
                      try clear c17b0
                      try clear c17b1
                      try clear p1
                      try clear p11
                      try clear p16
                      try clear p2
                      try clear p3
                      try clear p5
                      try clear p6
                      try clear p7
                      try clear q1
                      try clear q11
                      try clear q16
                      try clear q5
                      try clear q7
                      obtain ⟨kq, x7_12, rfl, HA, HJ12, HO_4, HB⟩ := hcut
                      cases kq with
                      | zero => exact absurd HA.out (by simp [spec_FromUtf7Of.j3])
                      | succ kj12 =>
                        have H := HA.out
                        clear HA
                        simp only [spec_FromUtf7Of.j3] at H
                        by_cases c18 : x7_12 = (a0.size : Int)
                        · rw [if_pos c18] at H
                          have c18b0 : (x7_12 == (a0.size : Int)) = true := beq_iff_eq.mpr c18
                          have c18b1 : (x7_12 != (a0.size : Int)) = false := bne_eq_false_iff_eq.mpr c18
                          clear c18
                          simp only [Option.some.injEq, Prod.mk.injEq] at H
                          obtain ⟨rfl, rfl⟩ := H
                          go_wp2
                          go_ret2
                          exact ⟨by first | rfl | (simp [errW_none, errW_some] <;> rfl) | (simp [*, errW_none, errW_some] <;> rfl), by repeat (first | (with_reducible first | exact HB.out | apply below_alloc | apply pw_below_drewN | apply below_drew1) | exact HB.out)⟩
                        · rw [if_neg c18] at H
                          have c18b0 : (x7_12 == (a0.size : Int)) = false := beq_eq_false_iff_ne.mpr c18
                          have c18b1 : (x7_12 != (a0.size : Int)) = true := bne_iff_ne.mpr c18
                          by_cases c19 : x7_12 = (wrap64 (x6_1 + 1))
                          · rw [if_pos c19] at H
                            have c19b0 : (x7_12 == (wrap64 (x6_1 + 1))) = true := beq_iff_eq.mpr c19
                            have c19b1 : (x7_12 != (wrap64 (x6_1 + 1))) = false := bne_eq_false_iff_eq.mpr c19
                            clear c19
                            by_cases c20 : x4_1.length < 35184372088832
                            · rw [if_pos c20] at H
                              have LMc20 := Aside0.mk c20
                              clear c20
                              obtain ⟨y118, hy118⟩ : ∃ y_ : List Int, y_ = (x4_1 ++ [38]) := ⟨_, rfl⟩
                              replace H : (spec_FromUtf7Of.l0 kj12 a0 y118 false (wrap64 (x7_12 + 1))) = some (r1, r2) := by first | (rw [hy118]; with_reducible exact H) | (have H2_ := (Option.bind_some _ _).symm.trans H; rw [hy118]; with_reducible exact H2_) | (have H2_ := (Option.bind_some _ _).symm.trans H; with_reducible exact H2_) | with_reducible exact H | (rw [hy118]; exact H) | exact H
                              have Ny118 := Aside0.mk hy118
                              clear hy118
                              have H' := Aside0.mk H
                              clear H
                              go_wp2_with (first | ((with_reducible refine gate_builtin (b := .append) (xs := #[.tmp 59, .tmp 60]) rfl ?_); at_builtin; refine Kd.R_append (Kd.int .i32) (w0 := w) w.heap.size rfl (.tmp 59) (.tmp 60) 26 21 (.int .i32 0) 4 rfl Tryd.underlying26 info21 rfl (by decide) (by omega) u4 x4_1 38 [.int .i32 38] (fun _ => True) (fun _ => False) rfl rfl ?aP (fun _ hk => hk.elim) ?aF ?aO ?aB ?aS ?aL ?_; (case aP => exact rfl); (case aB => exact (by repeat (first | (with_reducible first | exact HB.out | apply below_alloc | apply pw_below_drewN | apply below_drew1) | exact HB.out))); (case aF => exact (fun _ _ => trivial)); (case aO => exact (by (with_reducible repeat (first | apply Kd.R_alloc | apply Kd.R_drewN | apply Kd.R_drew)); exact HO_4.out)); (case aS => exact (below_size (by repeat (first | (with_reducible first | exact HB.out | apply below_alloc | apply pw_below_drewN | apply below_drew1) | exact HB.out)))); (case aL => have := LMc20.out; omega); intro v119 w21 ho hb hg hat; rw [← Ny118.out] at ho; have n0_ := Aside0.mk (hb); have n1_ := Aside0.mk (ho); clear HB; clear HO_4; have HB := n0_; have HO120 := n1_; clear n0_ n1_; clear ho hb hg hat))
                              go_roundg kj12
                              case measure => have := HK1.out; have := HJ2.out; have := HJ12.out; omega
                              case rel => exact ⟨(y118), (false), (wrap64 (x7_12 + 1)), (by first | rfl | (simp; done) | (simp [*]; done)), (by first | rfl | (simp; done) | (simp [*]; done)), H', ⟨by have := HK1.out; have := HJ2.out; have := HJ12.out; omega⟩, ⟨by (with_reducible repeat (first | apply Kd.R_alloc | apply Kd.R_drewN | apply Kd.R_drew)); exact HO120.out⟩, ⟨by repeat (first | (with_reducible first | exact HB.out | apply below_alloc | apply pw_below_drewN | apply below_drew1) | exact HB.out)⟩⟩
                            · rw [if_neg c20] at H
                              exact absurd H (by simp)
                          · rw [if_neg c19] at H
                            have c19b0 : (x7_12 == (wrap64 (x6_1 + 1))) = false := beq_eq_false_iff_ne.mpr c19
                            have c19b1 : (x7_12 != (wrap64 (x6_1 + 1))) = true := bne_iff_ne.mpr c19
                            obtain ⟨ji22, hji22⟩ : ∃ j_ : Int, (wrap64 (x6_1 + 1)) = j_ := ⟨_, rfl⟩
                            replace H : (if 0 ≤ (ji22) then (if (ji22) ≤ x7_12 then (if x7_12 ≤ (a0.size : Int) then ((spec_units9.f kj12 (a0.extract ((ji22) : Int).toNat (x7_12 : Int).toNat)).bind fun bt121 => (if bt121.2 = true then (if x5_1 = true then (some ((⟨#[]⟩ : ByteArray), false)) else (if x4_1.length + bt121.1.length < 35184372088832 then (spec_FromUtf7Of.l0 kj12 a0 (x4_1 ++ bt121.1) true (wrap64 (x7_12 + 1))) else (none))) else (some ((⟨#[]⟩ : ByteArray), false)))) else (none)) else (none)) else (none)) = some (r1, r2) := by first | (rw [hji22] at H; exact H) | (simp only [hji22] at H ⊢; exact H)
                            (try rw [hji22] at c19b0)
                            (try rw [hji22] at c19b1)
                            have hji22w : (IntKind.i64.wrap (x6_1 + 1)) = ji22 := (i64_w _).trans hji22
                            by_cases c23 : 0 ≤ (ji22)
                            · rw [if_pos c23] at H
                              have c23b0 := eq_true c23
                              have c23b1 : decide (0 ≤ (ji22)) = true := decide_eq_true c23
                              clear c23
                              by_cases c24 : (ji22) ≤ x7_12
                              · rw [if_pos c24] at H
                                have c24b0 := eq_true c24
                                have c24b1 : decide ((ji22) ≤ x7_12) = true := decide_eq_true c24
                                clear c24
                                by_cases c25 : x7_12 ≤ (a0.size : Int)
                                · rw [if_pos c25] at H
                                  have c25b0 := eq_true c25
                                  have c25b1 : decide (x7_12 ≤ (a0.size : Int)) = true := decide_eq_true c25
                                  clear c25
                                  replace H := Option.bind_eq_some_iff.mp H
                                  obtain ⟨⟨t121, t122⟩, A260, H⟩ := H
                                  replace H : (if t122 = true then (if x5_1 = true then (some ((⟨#[]⟩ : ByteArray), false)) else (if x4_1.length + t121.length < 35184372088832 then (spec_FromUtf7Of.l0 kj12 a0 (x4_1 ++ t121) true (wrap64 (x7_12 + 1))) else (none))) else (some ((⟨#[]⟩ : ByteArray), false))) = some (r1, r2) := H
                                  have A26 := Aside0.mk A260
                                  clear A260
                                  by_cases c27 : t122 = true
                                  · subst c27
                                    have H1 : (if x5_1 = true then (some ((⟨#[]⟩ : ByteArray), false)) else (if x4_1.length + t121.length < 35184372088832 then (spec_FromUtf7Of.l0 kj12 a0 (x4_1 ++ t121) true (wrap64 (x7_12 + 1))) else (none))) = some (r1, r2) := by rw [if_pos rfl] at H; exact H
                                    clear H
                                    have H := H1
                                    clear H1
                                    by_cases c28 : x5_1 = true
                                    · subst c28
                                      have H1 : (some ((⟨#[]⟩ : ByteArray), false)) = some (r1, r2) := by rw [if_pos rfl] at H; exact H
                                      clear H
                                      have H := H1
                                      clear H1
                                      simp only [Option.some.injEq, Prod.mk.injEq] at H
                                      obtain ⟨rfl, rfl⟩ := H
                                      go_wp2_with (first | ((with_reducible refine gate_callee (f := 10) rfl ?_); refine goesL_ (some 69) rfl rfl Tryd.func10 (by kernel_rfl) rfl #[.string (a0.extract ((ji22) : Int).toNat (x7_12 : Int).toNat)] rfl (by (try simp only [List.map_toArray, List.map_cons, List.map_nil]); first | done | (simp only [hji22]; rfl) | rfl | (simp only [List.length_drop, List.length_take]; rfl)) ?_; (with_reducible refine (spec_units9.calls kj12 (a0.extract ((ji22) : Int).toNat (x7_12 : Int).toNat) t121 true _ A26.out).mono ?_); rintro e w29 ⟨v123, rfl, ho0, hb⟩; refine ⟨_, rfl, ?_⟩; have n0_ := Aside0.mk (Kd.R_elder' (by (with_reducible repeat (first | apply Kd.R_alloc | apply Kd.R_drewN | apply Kd.R_drew)); exact HO_4.out) (Kd.R_base ho0) hb); have n1_ := Aside0.mk (Kd.R_lower (Kd.R_new' ho0 (Kd.R_lt (by (with_reducible repeat (first | apply Kd.R_alloc | apply Kd.R_drewN | apply Kd.R_drew)); exact HO_4.out))) (below_size (by repeat (first | (with_reducible first | exact HB.out | apply below_alloc | apply pw_below_drewN | apply below_drew1) | exact HB.out)))); have n2_ := Aside0.mk (below_step (by repeat (first | (with_reducible first | exact HB.out | apply below_alloc | apply pw_below_drewN | apply below_drew1) | exact HB.out)) hb); clear HO_4; clear HB; have HO_4 := n0_; have HO124 := n1_; have HB := n2_; clear n0_ n1_ n2_; (try clear hb); (try clear hb2); (try clear hk); (try clear hi); (try clear ho0)))
                                      go_ret2
                                      exact ⟨by first | rfl | (simp [errW_none, errW_some] <;> rfl) | (simp only [← hji22]; first | rfl | (simp [errW_none, errW_some] <;> rfl)) | (simp [*, errW_none, errW_some] <;> rfl), by repeat (first | (with_reducible first | exact HB.out | apply below_alloc | apply pw_below_drewN | apply below_drew1) | exact HB.out)⟩
                                    · replace c28 := Bool.eq_false_iff.mpr c28
                                      subst c28
                                      have H1 : (if x4_1.length + t121.length < 35184372088832 then (spec_FromUtf7Of.l0 kj12 a0 (x4_1 ++ t121) true (wrap64 (x7_12 + 1))) else (none)) = some (r1, r2) := by rw [if_neg (show ¬ (false = true) by decide)] at H; exact H
                                      clear H
                                      have H := H1
                                      clear H1
                                      by_cases c30 : x4_1.length + t121.length < 35184372088832
                                      · rw [if_pos c30] at H
                                        have LMc30 := Aside0.mk c30
                                        clear c30
                                        obtain ⟨y125, hy125⟩ : ∃ y_ : List Int, y_ = (x4_1 ++ t121) := ⟨_, rfl⟩
                                        replace H : (spec_FromUtf7Of.l0 kj12 a0 y125 true (wrap64 (x7_12 + 1))) = some (r1, r2) := by first | (rw [hy125]; with_reducible exact H) | (have H2_ := (Option.bind_some _ _).symm.trans H; rw [hy125]; with_reducible exact H2_) | (have H2_ := (Option.bind_some _ _).symm.trans H; with_reducible exact H2_) | with_reducible exact H | (rw [hy125]; exact H) | exact H
                                        have Ny125 := Aside0.mk hy125
                                        clear hy125
                                        have H' := Aside0.mk H
                                        clear H
                                        go_wp2_with (first | ((with_reducible refine gate_callee (f := 10) rfl ?_); refine goesL_ (some 69) rfl rfl Tryd.func10 (by kernel_rfl) rfl #[.string (a0.extract ((ji22) : Int).toNat (x7_12 : Int).toNat)] rfl (by (try simp only [List.map_toArray, List.map_cons, List.map_nil]); first | done | (simp only [hji22]; rfl) | rfl | (simp only [List.length_drop, List.length_take]; rfl)) ?_; (with_reducible refine (spec_units9.calls kj12 (a0.extract ((ji22) : Int).toNat (x7_12 : Int).toNat) t121 true _ A26.out).mono ?_); rintro e w31 ⟨v123, rfl, ho0, hb⟩; refine ⟨_, rfl, ?_⟩; have n0_ := Aside0.mk (Kd.R_elder' (by (with_reducible repeat (first | apply Kd.R_alloc | apply Kd.R_drewN | apply Kd.R_drew)); exact HO_4.out) (Kd.R_base ho0) hb); have n1_ := Aside0.mk (Kd.R_lower (Kd.R_new' ho0 (Kd.R_lt (by (with_reducible repeat (first | apply Kd.R_alloc | apply Kd.R_drewN | apply Kd.R_drew)); exact HO_4.out))) (below_size (by repeat (first | (with_reducible first | exact HB.out | apply below_alloc | apply pw_below_drewN | apply below_drew1) | exact HB.out)))); have n2_ := Aside0.mk (below_step (by repeat (first | (with_reducible first | exact HB.out | apply below_alloc | apply pw_below_drewN | apply below_drew1) | exact HB.out)) hb); clear HO_4; clear HB; have HO_4 := n0_; have HO124 := n1_; have HB := n2_; clear n0_ n1_ n2_; (try clear hb); (try clear hb2); (try clear hk); (try clear hi); (try clear ho0); obtain ⟨Ao33, co33, eo33⟩ := Kd.R_slice HO124.out; subst eo33) | ((with_reducible refine gate_builtin (b := .append) (xs := #[.tmp 77, .tmp 78]) rfl ?_); at_builtin; refine Kd.R_append_rows (Kd.int .i32) (w0 := w) w.heap.size rfl (.tmp 77) (.tmp 78) 26 21 (.int .i32 0) 4 rfl Tryd.underlying26 info21 rfl (by decide) (by omega) u4 x4_1 t121 _ _ _ (fun k_ => some k_ ≠ (.slice Ao33 t121.length co33 : Value).ownBlock) (fun _ => False) rfl rfl ?aO ?aR (fun _ _ h => h) (fun _ h => h.elim) ?aF ?aB ?aS ?aL ?_; (case aR => repeat (first | exact (Kd.R_reads' HO124.out).2.2 | (with_reducible refine Kd.C_alloc ?_ _) | (with_reducible refine Kd.C_drewN ?_ _) | (with_reducible refine Kd.C_drew ?_))); (case aB => exact (by repeat (first | (with_reducible first | exact HB.out | apply below_alloc | apply pw_below_drewN | apply below_drew1) | exact HB.out))); (case aF => exact (fun k_ hk => Kd.fresh' (Kd.R_lt (by (with_reducible repeat (first | apply Kd.R_alloc | apply Kd.R_drewN | apply Kd.R_drew)); exact HO124.out)) k_ hk)); (case aO => exact (by (with_reducible repeat (first | apply Kd.R_alloc | apply Kd.R_drewN | apply Kd.R_drew)); exact Kd.R_mono HO_4.out (fun _ hk => hk.2))); (case aS => exact (below_size (by repeat (first | (with_reducible first | exact HB.out | apply below_alloc | apply pw_below_drewN | apply below_drew1) | exact HB.out)))); (case aL => have := LMc30.out; omega); intro v126 w32 ho hb hg hat; rw [← Ny125.out] at ho; have n0_ := Aside0.mk (Kd.R_after (ok := (fun _ => True)) (by (with_reducible repeat (first | apply Kd.R_alloc | apply Kd.R_drewN | apply Kd.R_drew)); exact HO124.out) hg hat); have n1_ := Aside0.mk (hb); have n2_ := Aside0.mk (ho); clear HO124; clear HB; clear HO_4; have HO124 := n0_; have HB := n1_; have HO127 := n2_; clear n0_ n1_ n2_; clear ho hb hg hat))
                                        go_roundg kj12
                                        case measure => have := HK1.out; have := HJ2.out; have := HJ12.out; omega
                                        case rel => exact ⟨(y125), (true), (wrap64 (x7_12 + 1)), (by first | rfl | (simp; done) | (simp [*]; done)), (by first | rfl | (simp; done) | (simp [*]; done)), (by first | exact H' | (rw [hji22]; exact H') | (simp only [hji22]; exact H')), ⟨by have := HK1.out; have := HJ2.out; have := HJ12.out; omega⟩, ⟨by (with_reducible repeat (first | apply Kd.R_alloc | apply Kd.R_drewN | apply Kd.R_drew)); exact Kd.R_mono HO127.out (fun _ hk => trivial)⟩, ⟨by repeat (first | (with_reducible first | exact HB.out | apply below_alloc | apply pw_below_drewN | apply below_drew1) | exact HB.out)⟩⟩
                                      · rw [if_neg c30] at H
                                        exact absurd H (by simp)
                                  · replace c27 := Bool.eq_false_iff.mpr c27
                                    subst c27
                                    have H1 : (some ((⟨#[]⟩ : ByteArray), false)) = some (r1, r2) := by rw [if_neg (show ¬ (false = true) by decide)] at H; exact H
                                    clear H
                                    have H := H1
                                    clear H1
                                    simp only [Option.some.injEq, Prod.mk.injEq] at H
                                    obtain ⟨rfl, rfl⟩ := H
                                    go_wp2_with (first | ((with_reducible refine gate_callee (f := 10) rfl ?_); refine goesL_ (some 69) rfl rfl Tryd.func10 (by kernel_rfl) rfl #[.string (a0.extract ((ji22) : Int).toNat (x7_12 : Int).toNat)] rfl (by (try simp only [List.map_toArray, List.map_cons, List.map_nil]); first | done | (simp only [hji22]; rfl) | rfl | (simp only [List.length_drop, List.length_take]; rfl)) ?_; (with_reducible refine (spec_units9.calls kj12 (a0.extract ((ji22) : Int).toNat (x7_12 : Int).toNat) t121 false _ A26.out).mono ?_); rintro e w34 ⟨v123, rfl, ho0, hb⟩; refine ⟨_, rfl, ?_⟩; have n0_ := Aside0.mk (Kd.R_elder' (by (with_reducible repeat (first | apply Kd.R_alloc | apply Kd.R_drewN | apply Kd.R_drew)); exact HO_4.out) (Kd.R_base ho0) hb); have n1_ := Aside0.mk (Kd.R_lower (Kd.R_new' ho0 (Kd.R_lt (by (with_reducible repeat (first | apply Kd.R_alloc | apply Kd.R_drewN | apply Kd.R_drew)); exact HO_4.out))) (below_size (by repeat (first | (with_reducible first | exact HB.out | apply below_alloc | apply pw_below_drewN | apply below_drew1) | exact HB.out)))); have n2_ := Aside0.mk (below_step (by repeat (first | (with_reducible first | exact HB.out | apply below_alloc | apply pw_below_drewN | apply below_drew1) | exact HB.out)) hb); clear HO_4; clear HB; have HO_4 := n0_; have HO124 := n1_; have HB := n2_; clear n0_ n1_ n2_; (try clear hb); (try clear hb2); (try clear hk); (try clear hi); (try clear ho0)))
                                    go_ret2
                                    exact ⟨by first | rfl | (simp [errW_none, errW_some] <;> rfl) | (simp only [← hji22]; first | rfl | (simp [errW_none, errW_some] <;> rfl)) | (simp [*, errW_none, errW_some] <;> rfl), by repeat (first | (with_reducible first | exact HB.out | apply below_alloc | apply pw_below_drewN | apply below_drew1) | exact HB.out)⟩
                                · rw [if_neg c25] at H
                                  exact absurd H (by simp)
                              · rw [if_neg c24] at H
                                exact absurd H (by simp)
                            · rw [if_neg c23] at H
                              exact absurd H (by simp)
                  · rw [if_neg c12] at H
                    have c12b0 : ((bt a0 x6_1) == 38) = false := beq_eq_false_iff_ne.mpr c12
                    have c12b1 : ((bt a0 x6_1) != 38) = true := bne_iff_ne.mpr c12
                    by_cases c36 : x4_1.length < 35184372088832
                    · rw [if_pos c36] at H
                      have LMc36 := Aside0.mk c36
                      clear c36
                      obtain ⟨y115, hy115⟩ : ∃ y_ : List Int, y_ = (x4_1 ++ [wrap32 (bt a0 x6_1)]) := ⟨_, rfl⟩
                      replace H : (spec_FromUtf7Of.l0 kj2 a0 y115 false (wrap64 (x6_1 + 1))) = some (r1, r2) := by first | (rw [hy115]; with_reducible exact H) | (have H2_ := (Option.bind_some _ _).symm.trans H; rw [hy115]; with_reducible exact H2_) | (have H2_ := (Option.bind_some _ _).symm.trans H; with_reducible exact H2_) | with_reducible exact H | (rw [hy115]; exact H) | exact H
                      have Ny115 := Aside0.mk hy115
                      clear hy115
                      have H' := Aside0.mk H
                      clear H
                      have p11 : 0 ≤ (x6_1 : Int) := of_decide_eq_true (by first | (with_reducible assumption) | assumption)
                      have q11 : x6_1 < (a0.size : Int) := of_decide_eq_true (by first | (with_reducible assumption) | assumption)
                      have hx11 := bt_at a0 x6_1
                      replace p11 := eq_true p11
                      replace q11 := eq_true q11
                      have p35 : 0 ≤ (x6_1 : Int) := of_decide_eq_true (by first | (with_reducible assumption) | assumption)
                      have q35 : x6_1 < (a0.size : Int) := of_decide_eq_true (by first | (with_reducible assumption) | assumption)
                      have hx35 := bt_at a0 x6_1
                      replace p35 := eq_true p35
                      replace q35 := eq_true q35
                      go_wp2_with (first | ((with_reducible refine gate_builtin (b := .append) (xs := #[.tmp 30, .tmp 35]) rfl ?_); at_builtin; refine Kd.R_append (Kd.int .i32) (w0 := w) w.heap.size rfl (.tmp 30) (.tmp 35) 26 21 (.int .i32 0) 4 rfl Tryd.underlying26 info21 rfl (by decide) (by omega) u4 x4_1 (wrap32 (bt a0 x6_1)) [.int .i32 (wrap32 (bt a0 x6_1))] (fun _ => True) (fun _ => False) rfl rfl ?aP (fun _ hk => hk.elim) ?aF ?aO ?aB ?aS ?aL ?_; (case aP => exact rfl); (case aB => exact (by repeat (first | (with_reducible first | exact HB.out | apply below_alloc | apply pw_below_drewN | apply below_drew1) | exact HB.out))); (case aF => exact (fun _ _ => trivial)); (case aO => exact (by (with_reducible repeat (first | apply Kd.R_alloc | apply Kd.R_drewN | apply Kd.R_drew)); exact HO_4.out)); (case aS => exact (below_size (by repeat (first | (with_reducible first | exact HB.out | apply below_alloc | apply pw_below_drewN | apply below_drew1) | exact HB.out)))); (case aL => have := LMc36.out; omega); intro v116 w37 ho hb hg hat; rw [← Ny115.out] at ho; have n0_ := Aside0.mk (hb); have n1_ := Aside0.mk (ho); clear HB; clear HO_4; have HB := n0_; have HO117 := n1_; clear n0_ n1_; clear ho hb hg hat))
                      go_roundg kj2
                      case measure => have := HK1.out; have := HJ2.out; omega
                      case rel => exact ⟨(y115), (false), (wrap64 (x6_1 + 1)), (by first | rfl | (simp; done) | (simp [*]; done)), (by first | rfl | (simp; done) | (simp [*]; done)), H', ⟨by have := HK1.out; have := HJ2.out; omega⟩, ⟨by (with_reducible repeat (first | apply Kd.R_alloc | apply Kd.R_drewN | apply Kd.R_drew)); exact HO117.out⟩, ⟨by repeat (first | (with_reducible first | exact HB.out | apply below_alloc | apply pw_below_drewN | apply below_drew1) | exact HB.out)⟩⟩
                    · rw [if_neg c36] at H
                      exact absurd H (by simp)
                · rw [if_neg c10] at H
                  exact absurd H (by simp)
              · rw [if_neg c9] at H
                exact absurd H (by simp)
      · rw [if_neg c2] at H
        have c2b0 : decide (x6_1 < (a0.size : Int)) = false := decide_eq_false c2
        clear c2
        simp only [Option.some.injEq, Prod.mk.injEq] at H
        obtain ⟨rfl, rfl⟩ := H
        have hcv38 := Own.own_runes (P := Tryd.prog) Tryd.underlying26 Tryd.underlying21 Tryd.underlying9 (Kd.own_of_R HO_4.out)
        go_wp2
        go_ret2
        exact ⟨by first | rfl | (simp [errW_none, errW_some] <;> rfl) | (simp [*, errW_none, errW_some] <;> rfl), by repeat (first | (with_reducible first | exact HB.out | apply below_alloc | apply pw_below_drewN | apply below_drew1) | exact HB.out)⟩

end Go.Proofs.YtbjhmmiijebehaaDoor.PFromUtf7Of
