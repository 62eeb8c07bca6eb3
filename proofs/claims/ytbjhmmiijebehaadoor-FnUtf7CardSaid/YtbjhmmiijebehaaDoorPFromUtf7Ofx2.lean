-- Printed for this claim by a copy of the kit's print that takes hand-proved callees (wip/patch_print.py).
import Derived.Test.YtbjhmmiijebehaaDoorPFromUtf7Ofx0
import Derived.Test.YtbjhmmiijebehaaDoorPFromUtf7Ofx1
namespace Go.Proofs.YtbjhmmiijebehaaDoor.PFromUtf7Of
open Go.RowKit Go.Proofs.YtbjhmmiijebehaaDoorW.PrintWords Go.Proofs.YtbjhmmiijebehaaDoorW.PrintLast Go.Proofs.YtbjhmmiijebehaaDoorW.PrintMore
attribute [local go_sem] max2_int min2_int max_two min_two max_three min_three max_four min_four   -- for this text's walks alone
set_option linter.unusedVariables false
set_option linter.unusedSimpArgs false

/-! ### spec_units9: function 10 -/
mutual
def spec_units9.l0 : Nat → ByteArray → List Int → Int → Int → Int → Int → Option (List Int × Bool)
  | 0, _, _, _, _, _, _ => none
  | k + 1, x0, x4, x5, x6, x13, x14 => if x14 < x13 then (spec_units9.l1 k x0 x4 x5 x6 x14 0 x13 x14) else (if x6 ≥ 6 then (spec_units9.j3 k x4 true) else (spec_units9.j3 k x4 ((x4.length : Int) == 0)))
def spec_units9.j2 : Nat → ByteArray → List Int → Int → Int → Int → Int → Int → Option (List Int × Bool)
  | 0, _, _, _, _, _, _, _ => none
  | k + 1, x0, x4, x5, x6, x8, x13, x14 => if x8 = 64 then (some (([] : List Int), false)) else (if (wrap64 (x6 + 6)) ≥ 16 then (if 0 ≤ (wrap64 ((wrap64 (x6 + 6)) - 16)) then (if x4.length < 35184372088832 then (spec_units9.l0 k x0 (x4 ++ [Go.bits .and .u32 (shr .u32 (Go.bits .or .u32 ((x5 * 64) % 4294967296) ((x8) % 4294967296)) (wrap64 ((wrap64 (x6 + 6)) - 16))) 65535]) (Go.bits .and .u32 (Go.bits .or .u32 ((x5 * 64) % 4294967296) ((x8) % 4294967296)) (((shl .u32 1 (wrap64 ((wrap64 (x6 + 6)) - 16))) - 1) % 4294967296)) (wrap64 ((wrap64 (x6 + 6)) - 16)) x13 (wrap64 (x14 + 1))) else (none)) else (none)) else (if 0 ≤ (wrap64 (x6 + 6)) then (spec_units9.l0 k x0 x4 (Go.bits .and .u32 (Go.bits .or .u32 ((x5 * 64) % 4294967296) ((x8) % 4294967296)) (((shl .u32 1 (wrap64 (x6 + 6))) - 1) % 4294967296)) (wrap64 (x6 + 6)) x13 (wrap64 (x14 + 1))) else (none)))
def spec_units9.l1 : Nat → ByteArray → List Int → Int → Int → Int → Int → Int → Int → Option (List Int × Bool)
  | 0, _, _, _, _, _, _, _, _ => none
  | k + 1, x0, x4, x5, x6, x7, x8, x13, x14 => if x8 < 64 then (if 0 ≤ x8 then (if 0 ≤ x7 then (if x7 < (x0.size : Int) then (if (bt (⟨#[65, 66, 67, 68, 69, 70, 71, 72, 73, 74, 75, 76, 77, 78, 79, 80, 81, 82, 83, 84, 85, 86, 87, 88, 89, 90, 97, 98, 99, 100, 101, 102, 103, 104, 105, 106, 107, 108, 109, 110, 111, 112, 113, 114, 115, 116, 117, 118, 119, 120, 121, 122, 48, 49, 50, 51, 52, 53, 54, 55, 56, 57, 43, 44]⟩ : ByteArray) x8) = (bt x0 x7) then (spec_units9.j2 k x0 x4 x5 x6 x8 x13 x14) else (spec_units9.l1 k x0 x4 x5 x6 x7 (wrap64 (x8 + 1)) x13 x14)) else (none)) else (none)) else (none)) else (spec_units9.j2 k x0 x4 x5 x6 x8 x13 x14)
def spec_units9.j3 : Nat → List Int → Bool → Option (List Int × Bool)
  | 0, _, _ => none
  | k + 1, x4, x62 => if x62 = true then (some (([] : List Int), false)) else (spec_units9.l2 k x4 ([] : List Int) 0)
def spec_units9.l2 : Nat → List Int → List Int → Int → Option (List Int × Bool)
  | 0, _, _, _ => none
  | k + 1, x4, x9, x10 => if x10 < (x4.length : Int) then (if 0 ≤ x10 then ((spec_plain9.f (rd x4 x10)).bind fun t105 => (if t105 = true then (spec_units9.j5 k x4 x9 x10 (rd x4 x10) t105) else (if (rd x4 x10) ≥ 56320 then (spec_units9.j5 k x4 x9 x10 (rd x4 x10) (decide ((rd x4 x10) ≤ 57343))) else (spec_units9.j5 k x4 x9 x10 (rd x4 x10) false)))) else (none)) else (some (x9, true))
def spec_units9.j5 : Nat → List Int → List Int → Int → Int → Bool → Option (List Int × Bool)
  | 0, _, _, _, _, _ => none
  | k + 1, x4, x9, x10, x11, x78 => if x78 = true then (some (([] : List Int), false)) else (if x11 ≥ 55296 then (spec_units9.j6 k x4 x9 x10 x11 (decide (x11 ≤ 56319))) else (spec_units9.j6 k x4 x9 x10 x11 false))
def spec_units9.j6 : Nat → List Int → List Int → Int → Int → Bool → Option (List Int × Bool)
  | 0, _, _, _, _, _ => none
  | k + 1, x4, x9, x10, x11, x87 => if x87 = true then (if (wrap64 (x10 + 1)) = (x4.length : Int) then (some (([] : List Int), false)) else (if 0 ≤ (wrap64 (x10 + 1)) then (if (wrap64 (x10 + 1)) < (x4.length : Int) then (if (rd x4 (wrap64 (x10 + 1))) < 56320 then (some (([] : List Int), false)) else (if (rd x4 (wrap64 (x10 + 1))) > 57343 then (some (([] : List Int), false)) else (if x9.length < 35184372088832 then (spec_units9.l2 k x4 (x9 ++ [wrap32 ((((65536 + ((((x11 - 55296) % 4294967296) * 1024) % 4294967296)) % 4294967296) + (((rd x4 (wrap64 (x10 + 1))) - 56320) % 4294967296)) % 4294967296)]) (wrap64 ((wrap64 (x10 + 1)) + 1))) else (none)))) else (none)) else (none))) else (if x9.length < 35184372088832 then (spec_units9.l2 k x4 (x9 ++ [wrap32 (x11)]) (wrap64 (x10 + 1))) else (none))
end
def spec_units9.f (k : Nat) (a0 : ByteArray) : Option (List Int × Bool) := spec_units9.l0 k a0 ([] : List Int) 0 0 (a0.size : Int) 0
theorem spec_units9.mono_l : ∀ k, (∀ y0 y1 y2 y3 y4 y5, LeO (spec_units9.l0 k y0 y1 y2 y3 y4 y5) (spec_units9.l0 (k + 1) y0 y1 y2 y3 y4 y5)) ∧ (∀ y0 y1 y2 y3 y4 y5 y6, LeO (spec_units9.j2 k y0 y1 y2 y3 y4 y5 y6) (spec_units9.j2 (k + 1) y0 y1 y2 y3 y4 y5 y6)) ∧ (∀ y0 y1 y2 y3 y4 y5 y6 y7, LeO (spec_units9.l1 k y0 y1 y2 y3 y4 y5 y6 y7) (spec_units9.l1 (k + 1) y0 y1 y2 y3 y4 y5 y6 y7)) ∧ (∀ y0 y1, LeO (spec_units9.j3 k y0 y1) (spec_units9.j3 (k + 1) y0 y1)) ∧ (∀ y0 y1 y2, LeO (spec_units9.l2 k y0 y1 y2) (spec_units9.l2 (k + 1) y0 y1 y2)) ∧ (∀ y0 y1 y2 y3 y4, LeO (spec_units9.j5 k y0 y1 y2 y3 y4) (spec_units9.j5 (k + 1) y0 y1 y2 y3 y4)) ∧ (∀ y0 y1 y2 y3 y4, LeO (spec_units9.j6 k y0 y1 y2 y3 y4) (spec_units9.j6 (k + 1) y0 y1 y2 y3 y4))
  | 0 => ⟨fun _ _ _ _ _ _ r h => by simp [spec_units9.l0] at h, fun _ _ _ _ _ _ _ r h => by simp [spec_units9.j2] at h, fun _ _ _ _ _ _ _ _ r h => by simp [spec_units9.l1] at h, fun _ _ r h => by simp [spec_units9.j3] at h, fun _ _ _ r h => by simp [spec_units9.l2] at h, fun _ _ _ _ _ r h => by simp [spec_units9.j5] at h, fun _ _ _ _ _ r h => by simp [spec_units9.j6] at h⟩
  | k + 1 => by
    obtain ⟨ih0, ih1, ih2, ih3, ih4, ih5, ih6⟩ := spec_units9.mono_l k
    refine ⟨?_, ?_, ?_, ?_, ?_, ?_, ?_⟩
    · intro y0 y1 y2 y3 y4 y5
      unfold spec_units9.l0
      repeat' first
      | (with_reducible exact ih0 _ _ _ _ _ _)
      | (with_reducible exact ih1 _ _ _ _ _ _ _)
      | (with_reducible exact ih2 _ _ _ _ _ _ _ _)
      | (with_reducible exact ih3 _ _)
      | (with_reducible exact ih4 _ _ _)
      | (with_reducible exact ih5 _ _ _ _ _)
      | (with_reducible exact ih6 _ _ _ _ _)
      | (with_reducible exact LeO.refl _)
      | (with_reducible exact LeO.none _)
      | (with_reducible refine LeO.ite ?_ ?_)
      | (with_reducible refine LeO.bind ?_ (fun _ => ?_))
      | exact ih0 _ _ _ _ _ _
      | exact ih1 _ _ _ _ _ _ _
      | exact ih2 _ _ _ _ _ _ _ _
      | exact ih3 _ _
      | exact ih4 _ _ _
      | exact ih5 _ _ _ _ _
      | exact ih6 _ _ _ _ _
      | exact LeO.none _
      | refine LeO.ite ?_ ?_
      | refine LeO.bind ?_ (fun _ => ?_)
    · intro y0 y1 y2 y3 y4 y5 y6
      unfold spec_units9.j2
      repeat' first
      | (with_reducible exact ih0 _ _ _ _ _ _)
      | (with_reducible exact ih1 _ _ _ _ _ _ _)
      | (with_reducible exact ih2 _ _ _ _ _ _ _ _)
      | (with_reducible exact ih3 _ _)
      | (with_reducible exact ih4 _ _ _)
      | (with_reducible exact ih5 _ _ _ _ _)
      | (with_reducible exact ih6 _ _ _ _ _)
      | (with_reducible exact LeO.refl _)
      | (with_reducible exact LeO.none _)
      | (with_reducible refine LeO.ite ?_ ?_)
      | (with_reducible refine LeO.bind ?_ (fun _ => ?_))
      | exact ih0 _ _ _ _ _ _
      | exact ih1 _ _ _ _ _ _ _
      | exact ih2 _ _ _ _ _ _ _ _
      | exact ih3 _ _
      | exact ih4 _ _ _
      | exact ih5 _ _ _ _ _
      | exact ih6 _ _ _ _ _
      | exact LeO.none _
      | refine LeO.ite ?_ ?_
      | refine LeO.bind ?_ (fun _ => ?_)
    · intro y0 y1 y2 y3 y4 y5 y6 y7
      unfold spec_units9.l1
      repeat' first
      | (with_reducible exact ih0 _ _ _ _ _ _)
      | (with_reducible exact ih1 _ _ _ _ _ _ _)
      | (with_reducible exact ih2 _ _ _ _ _ _ _ _)
      | (with_reducible exact ih3 _ _)
      | (with_reducible exact ih4 _ _ _)
      | (with_reducible exact ih5 _ _ _ _ _)
      | (with_reducible exact ih6 _ _ _ _ _)
      | (with_reducible exact LeO.refl _)
      | (with_reducible exact LeO.none _)
      | (with_reducible refine LeO.ite ?_ ?_)
      | (with_reducible refine LeO.bind ?_ (fun _ => ?_))
      | exact ih0 _ _ _ _ _ _
      | exact ih1 _ _ _ _ _ _ _
      | exact ih2 _ _ _ _ _ _ _ _
      | exact ih3 _ _
      | exact ih4 _ _ _
      | exact ih5 _ _ _ _ _
      | exact ih6 _ _ _ _ _
      | exact LeO.none _
      | refine LeO.ite ?_ ?_
      | refine LeO.bind ?_ (fun _ => ?_)
    · intro y0 y1
      unfold spec_units9.j3
      repeat' first
      | (with_reducible exact ih0 _ _ _ _ _ _)
      | (with_reducible exact ih1 _ _ _ _ _ _ _)
      | (with_reducible exact ih2 _ _ _ _ _ _ _ _)
      | (with_reducible exact ih3 _ _)
      | (with_reducible exact ih4 _ _ _)
      | (with_reducible exact ih5 _ _ _ _ _)
      | (with_reducible exact ih6 _ _ _ _ _)
      | (with_reducible exact LeO.refl _)
      | (with_reducible exact LeO.none _)
      | (with_reducible refine LeO.ite ?_ ?_)
      | (with_reducible refine LeO.bind ?_ (fun _ => ?_))
      | exact ih0 _ _ _ _ _ _
      | exact ih1 _ _ _ _ _ _ _
      | exact ih2 _ _ _ _ _ _ _ _
      | exact ih3 _ _
      | exact ih4 _ _ _
      | exact ih5 _ _ _ _ _
      | exact ih6 _ _ _ _ _
      | exact LeO.none _
      | refine LeO.ite ?_ ?_
      | refine LeO.bind ?_ (fun _ => ?_)
    · intro y0 y1 y2
      unfold spec_units9.l2
      repeat' first
      | (with_reducible exact ih0 _ _ _ _ _ _)
      | (with_reducible exact ih1 _ _ _ _ _ _ _)
      | (with_reducible exact ih2 _ _ _ _ _ _ _ _)
      | (with_reducible exact ih3 _ _)
      | (with_reducible exact ih4 _ _ _)
      | (with_reducible exact ih5 _ _ _ _ _)
      | (with_reducible exact ih6 _ _ _ _ _)
      | (with_reducible exact LeO.refl _)
      | (with_reducible exact LeO.none _)
      | (with_reducible refine LeO.ite ?_ ?_)
      | (with_reducible refine LeO.bind ?_ (fun _ => ?_))
      | exact ih0 _ _ _ _ _ _
      | exact ih1 _ _ _ _ _ _ _
      | exact ih2 _ _ _ _ _ _ _ _
      | exact ih3 _ _
      | exact ih4 _ _ _
      | exact ih5 _ _ _ _ _
      | exact ih6 _ _ _ _ _
      | exact LeO.none _
      | refine LeO.ite ?_ ?_
      | refine LeO.bind ?_ (fun _ => ?_)
    · intro y0 y1 y2 y3 y4
      unfold spec_units9.j5
      repeat' first
      | (with_reducible exact ih0 _ _ _ _ _ _)
      | (with_reducible exact ih1 _ _ _ _ _ _ _)
      | (with_reducible exact ih2 _ _ _ _ _ _ _ _)
      | (with_reducible exact ih3 _ _)
      | (with_reducible exact ih4 _ _ _)
      | (with_reducible exact ih5 _ _ _ _ _)
      | (with_reducible exact ih6 _ _ _ _ _)
      | (with_reducible exact LeO.refl _)
      | (with_reducible exact LeO.none _)
      | (with_reducible refine LeO.ite ?_ ?_)
      | (with_reducible refine LeO.bind ?_ (fun _ => ?_))
      | exact ih0 _ _ _ _ _ _
      | exact ih1 _ _ _ _ _ _ _
      | exact ih2 _ _ _ _ _ _ _ _
      | exact ih3 _ _
      | exact ih4 _ _ _
      | exact ih5 _ _ _ _ _
      | exact ih6 _ _ _ _ _
      | exact LeO.none _
      | refine LeO.ite ?_ ?_
      | refine LeO.bind ?_ (fun _ => ?_)
    · intro y0 y1 y2 y3 y4
      unfold spec_units9.j6
      repeat' first
      | (with_reducible exact ih0 _ _ _ _ _ _)
      | (with_reducible exact ih1 _ _ _ _ _ _ _)
      | (with_reducible exact ih2 _ _ _ _ _ _ _ _)
      | (with_reducible exact ih3 _ _)
      | (with_reducible exact ih4 _ _ _)
      | (with_reducible exact ih5 _ _ _ _ _)
      | (with_reducible exact ih6 _ _ _ _ _)
      | (with_reducible exact LeO.refl _)
      | (with_reducible exact LeO.none _)
      | (with_reducible refine LeO.ite ?_ ?_)
      | (with_reducible refine LeO.bind ?_ (fun _ => ?_))
      | exact ih0 _ _ _ _ _ _
      | exact ih1 _ _ _ _ _ _ _
      | exact ih2 _ _ _ _ _ _ _ _
      | exact ih3 _ _
      | exact ih4 _ _ _
      | exact ih5 _ _ _ _ _
      | exact ih6 _ _ _ _ _
      | exact LeO.none _
      | refine LeO.ite ?_ ?_
      | refine LeO.bind ?_ (fun _ => ?_)
theorem spec_units9.mono : ∀ a0 k, LeO (spec_units9.f k a0) (spec_units9.f (k + 1) a0) := by
  intro a0 k
  obtain ⟨ih0, ih1, ih2, ih3, ih4, ih5, ih6⟩ := spec_units9.mono_l k
  unfold spec_units9.f
  repeat' first
      | (with_reducible exact ih0 _ _ _ _ _ _)
      | (with_reducible exact ih1 _ _ _ _ _ _ _)
      | (with_reducible exact ih2 _ _ _ _ _ _ _ _)
      | (with_reducible exact ih3 _ _)
      | (with_reducible exact ih4 _ _ _)
      | (with_reducible exact ih5 _ _ _ _ _)
      | (with_reducible exact ih6 _ _ _ _ _)
      | (with_reducible exact LeO.refl _)
      | (with_reducible exact LeO.none _)
      | (with_reducible refine LeO.ite ?_ ?_)
      | (with_reducible refine LeO.bind ?_ (fun _ => ?_))
      | exact ih0 _ _ _ _ _ _
      | exact ih1 _ _ _ _ _ _ _
      | exact ih2 _ _ _ _ _ _ _ _
      | exact ih3 _ _
      | exact ih4 _ _ _
      | exact ih5 _ _ _ _ _
      | exact ih6 _ _ _ _ _
      | exact LeO.none _
      | refine LeO.ite ?_ ?_
      | refine LeO.bind ?_ (fun _ => ?_)
set_option maxHeartbeats 8000000 in
set_option maxRecDepth 100000 in
theorem spec_units9.calls (k : Nat) (a0 : ByteArray) (r1 : List Int) (r2 : Bool) (w : World) (h : spec_units9.f k a0 = some (r1, r2)) :
    Calls Tryd.prog 10 #[.string a0] w fun e w' => ∃ v0_ : Value, e = .returned (.tuple #[v0_, .bool r2]) ∧ Kd.R (Kd.int .i32) 21 w' w.heap.size (fun _ => True) v0_ r1 ∧ Below w.heap.size w w' := by
  have HB := Aside0.mk (Below.refl w.heap.size w)
  have H : (spec_units9.l0 k a0 ([] : List Int) 0 0 (a0.size : Int) 0) = some (r1, r2) := h
  clear h
  have H' := Aside0.mk H
  clear H
  go_enter Tryd.func10, Tryd.ntmps10
  go_wp2
  repeat (go_quiet (fail); try go_wp2)
  go_loopg [4, 5, 6, 14] k (fun kq v4 v5 v6 v14 w' => ∃ (x4_1 : List Int) (x5_1 : Int) (x6_1 : Int) (x14_1 : Int), v5 = .int .u32 x5_1 ∧ v6 = .int .i64 x6_1 ∧ v14 = .int .i64 x14_1 ∧ Aside0 (spec_units9.l0 kq a0 x4_1 x5_1 x6_1 (a0.size : Int) x14_1 = some (r1, r2)) ∧ Aside0 (kq ≤ k) ∧ Aside0 (Kd.R (Kd.int .u32) 33 w' w.heap.size (fun _ => True) v4 x4_1) ∧ Aside0 (Below w.heap.size w w'))
  case atStart => exact ⟨(([] : List Int)), (0), (0), (0), (by first | rfl | (simp; done) | (simp [*]; done)), (by first | rfl | (simp; done) | (simp [*]; done)), (by first | rfl | (simp; done) | (simp [*]; done)), H', ⟨Nat.le_refl _⟩, ⟨by first | exact Kd.R_nil _ _ _ _ _ | exact Kd.N_nil _ _ _ _ _ | exact Kd.V_nil _ _ _ _ _ | exact Kd.Q_nil _ _ _ _ _ | exact Kd.S_nil _ _ _ _ _⟩, ⟨by repeat (first | (with_reducible first | exact HB.out | apply below_alloc | apply pw_below_drewN | apply below_drew1) | exact HB.out)⟩⟩
  case round =>
    clear H'
    try clear c1
    obtain ⟨x4_1, x5_1, x6_1, x14_1, rfl, rfl, rfl, HA, HK1, HO_4, HB⟩ := hrel
    cases gk with
    | zero => exact absurd HA.out (by simp [spec_units9.l0])
    | succ k1 =>
      have H := HA.out
      clear HA
      simp only [spec_units9.l0] at H
      by_cases c2 : x14_1 < (a0.size : Int)
      · rw [if_pos c2] at H
        have c2b0 : decide (x14_1 < (a0.size : Int)) = true := decide_eq_true c2
        clear c2
        have HC3 := Aside0.mk H
        clear H
        go_upto_block 2 with (fail)
        repeat (go_quiet (fail); go_upto_block 2 with (fail))
        go_cut [8] (fun v8 wc => ∃ (kq : Nat) (x8_2 : Int), v8 = .int .i64 x8_2 ∧ Aside0 (spec_units9.j2 kq a0 x4_1 x5_1 x6_1 x8_2 (a0.size : Int) x14_1 = some (r1, r2)) ∧ Aside0 (kq ≤ k1) ∧ Aside0 (Kd.R (Kd.int .u32) 33 wc w.heap.size (fun _ => True) u4 x4_1) ∧ Aside0 (Below w.heap.size w wc))
        case first =>
          have H := HC3.out
          clear HC3
          have H' := Aside0.mk H
          clear H
          go_wp2
          repeat (go_quiet (fail); try go_wp2)
          go_loopg [8] k1 (fun kq v8 w' => ∃ (x8_2 : Int), v8 = .int .i64 x8_2 ∧ Aside0 (spec_units9.l1 kq a0 x4_1 x5_1 x6_1 x14_1 x8_2 (a0.size : Int) x14_1 = some (r1, r2)) ∧ Aside0 (kq ≤ k1) ∧ Aside0 (Kd.R (Kd.int .u32) 33 w' w.heap.size (fun _ => True) u4 x4_1) ∧ Aside0 (Below w.heap.size w w'))
          case atStart => exact ⟨(0), (by first | rfl | (simp; done) | (simp [*]; done)), H', ⟨Nat.le_refl _⟩, ⟨by (with_reducible repeat (first | apply Kd.R_alloc | apply Kd.R_drewN | apply Kd.R_drew)); exact HO_4.out⟩, ⟨by repeat (first | (with_reducible first | exact HB.out | apply below_alloc | apply pw_below_drewN | apply below_drew1) | exact HB.out)⟩⟩
          case round =>
            clear H'
            try clear c1
            try clear c2
            try clear c2b0
            try clear p2
            obtain ⟨x8_2, rfl, HA, HK2, HO_4, HB⟩ := hrel
            cases gk with
            | zero => exact absurd HA.out (by simp [spec_units9.l1])
            | succ k2 =>
              have H := HA.out
              clear HA
              simp only [spec_units9.l1] at H
              by_cases c4 : x8_2 < 64
              · rw [if_pos c4] at H
                have c4b0 : decide (x8_2 < 64) = true := decide_eq_true c4
                clear c4
                (first | rw [c4b0] | (simp only [i64_w, i32_w]; rw [c4b0]) | skip)
                by_cases c5 : 0 ≤ x8_2
                · rw [if_pos c5] at H
                  have c5b0 : decide (0 ≤ x8_2) = true := decide_eq_true c5
                  clear c5
                  by_cases c7 : 0 ≤ x14_1
                  · rw [if_pos c7] at H
                    have c7b0 : decide (0 ≤ x14_1) = true := decide_eq_true c7
                    clear c7
                    by_cases c8 : x14_1 < (a0.size : Int)
                    · rw [if_pos c8] at H
                      have c8b0 : decide (x14_1 < (a0.size : Int)) = true := decide_eq_true c8
                      clear c8
                      by_cases c10 : (bt (⟨#[65, 66, 67, 68, 69, 70, 71, 72, 73, 74, 75, 76, 77, 78, 79, 80, 81, 82, 83, 84, 85, 86, 87, 88, 89, 90, 97, 98, 99, 100, 101, 102, 103, 104, 105, 106, 107, 108, 109, 110, 111, 112, 113, 114, 115, 116, 117, 118, 119, 120, 121, 122, 48, 49, 50, 51, 52, 53, 54, 55, 56, 57, 43, 44]⟩ : ByteArray) x8_2) = (bt a0 x14_1)
                      · rw [if_pos c10] at H
                        have c10b0 : ((bt (⟨#[65, 66, 67, 68, 69, 70, 71, 72, 73, 74, 75, 76, 77, 78, 79, 80, 81, 82, 83, 84, 85, 86, 87, 88, 89, 90, 97, 98, 99, 100, 101, 102, 103, 104, 105, 106, 107, 108, 109, 110, 111, 112, 113, 114, 115, 116, 117, 118, 119, 120, 121, 122, 48, 49, 50, 51, 52, 53, 54, 55, 56, 57, 43, 44]⟩ : ByteArray) x8_2) == (bt a0 x14_1)) = true := beq_iff_eq.mpr c10
                        have c10b1 : ((bt (⟨#[65, 66, 67, 68, 69, 70, 71, 72, 73, 74, 75, 76, 77, 78, 79, 80, 81, 82, 83, 84, 85, 86, 87, 88, 89, 90, 97, 98, 99, 100, 101, 102, 103, 104, 105, 106, 107, 108, 109, 110, 111, 112, 113, 114, 115, 116, 117, 118, 119, 120, 121, 122, 48, 49, 50, 51, 52, 53, 54, 55, 56, 57, 43, 44]⟩ : ByteArray) x8_2) != (bt a0 x14_1)) = false := bne_eq_false_iff_eq.mpr c10
                        clear c10
                        have H' := Aside0.mk H
                        clear H
                        have p6 : 0 ≤ (x8_2 : Int) := of_decide_eq_true (by first | (with_reducible assumption) | assumption)
                        have q6 : x8_2 < (64 : Int) := of_decide_eq_true (by first | (with_reducible assumption) | assumption)
                        have hx6 := bt_at (⟨#[65, 66, 67, 68, 69, 70, 71, 72, 73, 74, 75, 76, 77, 78, 79, 80, 81, 82, 83, 84, 85, 86, 87, 88, 89, 90, 97, 98, 99, 100, 101, 102, 103, 104, 105, 106, 107, 108, 109, 110, 111, 112, 113, 114, 115, 116, 117, 118, 119, 120, 121, 122, 48, 49, 50, 51, 52, 53, 54, 55, 56, 57, 43, 44]⟩ : ByteArray) x8_2
                        replace p6 := eq_true p6
                        replace q6 := eq_true q6
                        have p9 : 0 ≤ (x14_1 : Int) := of_decide_eq_true (by first | (with_reducible assumption) | assumption)
                        have q9 : x14_1 < (a0.size : Int) := of_decide_eq_true (by first | (with_reducible assumption) | assumption)
                        have hx9 := bt_at a0 x14_1
                        replace p9 := eq_true p9
                        replace q9 := eq_true q9
                        go_wp2
                        repeat (go_quiet (fail); try go_wp2)
                        go_meet
                        case rel => exact ⟨_, (x8_2), (by first | rfl | (simp; done) | (simp [*]; done)), H', ⟨by have := HK1.out; have := HK2.out; first | omega | exact Nat.le_refl _⟩, ⟨by (with_reducible repeat (first | apply Kd.R_alloc | apply Kd.R_drewN | apply Kd.R_drew)); exact HO_4.out⟩, ⟨by repeat (first | (with_reducible first | exact HB.out | apply below_alloc | apply pw_below_drewN | apply below_drew1) | exact HB.out)⟩⟩
                      · rw [if_neg c10] at H
                        have c10b0 : ((bt (⟨#[65, 66, 67, 68, 69, 70, 71, 72, 73, 74, 75, 76, 77, 78, 79, 80, 81, 82, 83, 84, 85, 86, 87, 88, 89, 90, 97, 98, 99, 100, 101, 102, 103, 104, 105, 106, 107, 108, 109, 110, 111, 112, 113, 114, 115, 116, 117, 118, 119, 120, 121, 122, 48, 49, 50, 51, 52, 53, 54, 55, 56, 57, 43, 44]⟩ : ByteArray) x8_2) == (bt a0 x14_1)) = false := beq_eq_false_iff_ne.mpr c10
                        have c10b1 : ((bt (⟨#[65, 66, 67, 68, 69, 70, 71, 72, 73, 74, 75, 76, 77, 78, 79, 80, 81, 82, 83, 84, 85, 86, 87, 88, 89, 90, 97, 98, 99, 100, 101, 102, 103, 104, 105, 106, 107, 108, 109, 110, 111, 112, 113, 114, 115, 116, 117, 118, 119, 120, 121, 122, 48, 49, 50, 51, 52, 53, 54, 55, 56, 57, 43, 44]⟩ : ByteArray) x8_2) != (bt a0 x14_1)) = true := bne_iff_ne.mpr c10
                        have H' := Aside0.mk H
                        clear H
                        have p6 : 0 ≤ (x8_2 : Int) := of_decide_eq_true (by first | (with_reducible assumption) | assumption)
                        have q6 : x8_2 < (64 : Int) := of_decide_eq_true (by first | (with_reducible assumption) | assumption)
                        have hx6 := bt_at (⟨#[65, 66, 67, 68, 69, 70, 71, 72, 73, 74, 75, 76, 77, 78, 79, 80, 81, 82, 83, 84, 85, 86, 87, 88, 89, 90, 97, 98, 99, 100, 101, 102, 103, 104, 105, 106, 107, 108, 109, 110, 111, 112, 113, 114, 115, 116, 117, 118, 119, 120, 121, 122, 48, 49, 50, 51, 52, 53, 54, 55, 56, 57, 43, 44]⟩ : ByteArray) x8_2
                        replace p6 := eq_true p6
                        replace q6 := eq_true q6
                        have p9 : 0 ≤ (x14_1 : Int) := of_decide_eq_true (by first | (with_reducible assumption) | assumption)
                        have q9 : x14_1 < (a0.size : Int) := of_decide_eq_true (by first | (with_reducible assumption) | assumption)
                        have hx9 := bt_at a0 x14_1
                        replace p9 := eq_true p9
                        replace q9 := eq_true q9
                        go_wp2
                        repeat (go_quiet (fail); try go_wp2)
                        go_roundg k2
                        case measure => have := HK1.out; have := HK2.out; omega
                        case rel => exact ⟨(wrap64 (x8_2 + 1)), (by first | rfl | (simp; done) | (simp [*]; done)), H', ⟨by have := HK1.out; have := HK2.out; omega⟩, ⟨by (with_reducible repeat (first | apply Kd.R_alloc | apply Kd.R_drewN | apply Kd.R_drew)); exact HO_4.out⟩, ⟨by repeat (first | (with_reducible first | exact HB.out | apply below_alloc | apply pw_below_drewN | apply below_drew1) | exact HB.out)⟩⟩
                    · rw [if_neg c8] at H
                      exact absurd H (by simp)
                  · rw [if_neg c7] at H
                    exact absurd H (by simp)
                · rw [if_neg c5] at H
                  exact absurd H (by simp)
              · rw [if_neg c4] at H
                have c4b0 : decide (x8_2 < 64) = false := decide_eq_false c4
                clear c4
                (first | rw [c4b0] | (simp only [i64_w, i32_w]; rw [c4b0]) | skip)
                have H' := Aside0.mk H
                clear H
                go_wp2
                repeat (go_quiet (fail); try go_wp2)
                go_meet
                case rel => exact ⟨_, (x8_2), (by first | rfl | (simp; done) | (simp [*]; done)), H', ⟨by have := HK1.out; have := HK2.out; first | omega | exact Nat.le_refl _⟩, ⟨by (with_reducible repeat (first | apply Kd.R_alloc | apply Kd.R_drewN | apply Kd.R_drew)); exact HO_4.out⟩, ⟨by repeat (first | (with_reducible first | exact HB.out | apply below_alloc | apply pw_below_drewN | apply below_drew1) | exact HB.out)⟩⟩
        case rest =>
          clear HC3
          try clear c1
          try clear c2
          try clear c2b0
          try clear p2
          try clear c4
          try clear c4b0
          try clear c5
          try clear c5b0
          try clear p6
          try clear q6
          try clear hx6
          try clear c7
          try clear c7b0
          try clear c8
          try clear c8b0
          try clear p9
          try clear q9
          try clear hx9
          try clear c10
          try clear c10b0
          try clear c10b1
          try clear p2
          try clear p6
          try clear p9
          try clear q6
          try clear q9
          obtain ⟨kq, x8_2, rfl, HA, HJ2, HO_4, HB⟩ := hcut
          cases kq with
          | zero => exact absurd HA.out (by simp [spec_units9.j2])
          | succ kj2 =>
            have H := HA.out
            clear HA
            simp only [spec_units9.j2] at H
            by_cases c11 : x8_2 = 64
            · rw [if_pos c11] at H
              have c11b0 : (x8_2 == 64) = true := beq_iff_eq.mpr c11
              have c11b1 : (x8_2 != 64) = false := bne_eq_false_iff_eq.mpr c11
              clear c11
              simp only [Option.some.injEq, Prod.mk.injEq] at H
              obtain ⟨rfl, rfl⟩ := H
              go_wp2
              repeat (go_quiet (fail); try go_wp2)
              go_ret2
              exact ⟨_, by first | rfl | (simp [errW_none, errW_some] <;> rfl) | (simp [*, errW_none, errW_some] <;> rfl), by first | exact Kd.R_nil _ _ _ _ _ | exact Kd.N_nil _ _ _ _ _ | exact Kd.V_nil _ _ _ _ _ | exact Kd.Q_nil _ _ _ _ _ | exact Kd.S_nil _ _ _ _ _, by repeat (first | (with_reducible first | exact HB.out | apply below_alloc | apply pw_below_drewN | apply below_drew1) | exact HB.out)⟩
            · rw [if_neg c11] at H
              have c11b0 : (x8_2 == 64) = false := beq_eq_false_iff_ne.mpr c11
              have c11b1 : (x8_2 != 64) = true := bne_iff_ne.mpr c11
              by_cases c12 : (wrap64 (x6_1 + 6)) ≥ 16
              · rw [if_pos c12] at H
                have c12b0 : decide (16 ≤ (wrap64 (x6_1 + 6))) = true := decide_eq_true c12
                clear c12
                obtain ⟨ji13, hji13⟩ : ∃ j_ : Int, (wrap64 ((wrap64 (x6_1 + 6)) - 16)) = j_ := ⟨_, rfl⟩
                replace H : (if 0 ≤ (ji13) then (if x4_1.length < 35184372088832 then (spec_units9.l0 kj2 a0 (x4_1 ++ [Go.bits .and .u32 (shr .u32 (Go.bits .or .u32 ((x5_1 * 64) % 4294967296) ((x8_2) % 4294967296)) (ji13)) 65535]) (Go.bits .and .u32 (Go.bits .or .u32 ((x5_1 * 64) % 4294967296) ((x8_2) % 4294967296)) (((shl .u32 1 (ji13)) - 1) % 4294967296)) ji13 (a0.size : Int) (wrap64 (x14_1 + 1))) else (none)) else (none)) = some (r1, r2) := by first | (rw [hji13] at H; exact H) | (simp only [hji13] at H ⊢; exact H)
                have hji13w : (IntKind.i64.wrap ((wrap64 (x6_1 + 6)) - 16)) = ji13 := (i64_w _).trans hji13
                by_cases c14 : 0 ≤ (ji13)
                · rw [if_pos c14] at H
                  have c14b0 := eq_true c14
                  have c14b1 : decide (0 ≤ (ji13)) = true := decide_eq_true c14
                  clear c14
                  obtain ⟨ji15, hji15⟩ : ∃ j_ : Int, (shr .u32 (Go.bits .or .u32 ((x5_1 * 64) % 4294967296) ((x8_2) % 4294967296)) (ji13)) = j_ := ⟨_, rfl⟩
                  replace H : (if x4_1.length < 35184372088832 then (spec_units9.l0 kj2 a0 (x4_1 ++ [Go.bits .and .u32 (ji15) 65535]) (Go.bits .and .u32 (Go.bits .or .u32 ((x5_1 * 64) % 4294967296) ((x8_2) % 4294967296)) (((shl .u32 1 (ji13)) - 1) % 4294967296)) ji13 (a0.size : Int) (wrap64 (x14_1 + 1))) else (none)) = some (r1, r2) := by first | (rw [hji15] at H; exact H) | (simp only [hji15] at H ⊢; exact H)
                  have hji15_ : ((Go.bits .or .u32 ((x5_1 * 64) % 4294967296) ((x8_2) % 4294967296)) / 2 ^ min (ji13).toNat 32) = ji15 := hji15
                  have hji15z : (ji13) ≤ 32 → ((Go.bits .or .u32 ((x5_1 * 64) % 4294967296) ((x8_2) % 4294967296)) / 2 ^ (ji13).toNat) = ji15 := shr_small hji15
                  by_cases c16 : x4_1.length < 35184372088832
                  · rw [if_pos c16] at H
                    have LMc16 := Aside0.mk c16
                    clear c16
                    obtain ⟨y101, hy101⟩ : ∃ y_ : List Int, y_ = (x4_1 ++ [Go.bits .and .u32 (ji15) 65535]) := ⟨_, rfl⟩
                    replace H : (spec_units9.l0 kj2 a0 y101 (Go.bits .and .u32 (Go.bits .or .u32 ((x5_1 * 64) % 4294967296) ((x8_2) % 4294967296)) (((shl .u32 1 (ji13)) - 1) % 4294967296)) ji13 (a0.size : Int) (wrap64 (x14_1 + 1))) = some (r1, r2) := by first | (rw [hy101]; with_reducible exact H) | (have H2_ := (Option.bind_some _ _).symm.trans H; rw [hy101]; with_reducible exact H2_) | (have H2_ := (Option.bind_some _ _).symm.trans H; with_reducible exact H2_) | with_reducible exact H | (rw [hy101]; exact H) | exact H
                    have Ny101 := Aside0.mk hy101
                    clear hy101
                    have c17b0 := eq_true (of_decide_eq_true (by first | (with_reducible assumption) | assumption) : 0 ≤ (ji13))
                    obtain ⟨ji18, hji18⟩ : ∃ j_ : Int, (shl .u32 1 (ji13)) = j_ := ⟨_, rfl⟩
                    replace H : (spec_units9.l0 kj2 a0 y101 (Go.bits .and .u32 (Go.bits .or .u32 ((x5_1 * 64) % 4294967296) ((x8_2) % 4294967296)) (((ji18) - 1) % 4294967296)) ji13 (a0.size : Int) (wrap64 (x14_1 + 1))) = some (r1, r2) := by first | (rw [hji18] at H; exact H) | (simp only [hji18] at H ⊢; exact H)
                    have hji18_ : (IntKind.u32.wrap (1 * 2 ^ min (ji13).toNat 32)) = ji18 := hji18
                    have hji18z : (ji13) ≤ 32 → (IntKind.u32.wrap (1 * 2 ^ (ji13).toNat)) = ji18 := shl_small hji18
                    have hji18u : (IntKind.u32.wrap (2 ^ min (ji13).toNat 32)) = ji18 := by have h_ := hji18_; rw [Int.one_mul] at h_; exact h_
                    have hji18v : (ji13) ≤ 32 → (IntKind.u32.wrap (2 ^ (ji13).toNat)) = ji18 := fun hle_ => by have h_ := hji18z hle_; rw [Int.one_mul] at h_; exact h_
                    have H' := Aside0.mk H
                    clear H
                    go_wp2_with (first | ((with_reducible refine gate_builtin (b := .append) (xs := #[.tmp 40, .tmp 46]) rfl ?_); (try (refine gate_guard (by rfl) ?_; dsimp only)); at_builtin; refine Kd.R_append (Kd.int .u32) (w0 := w) w.heap.size rfl (.tmp 40) (.tmp 46) 37 33 (.int .u32 0) 4 rfl Tryd.underlying37 info33 rfl (by decide) (by omega) u4 x4_1 (Go.bits .and .u32 (ji15) 65535) [.int .u32 (Go.bits .and .u32 (ji15) 65535)] (fun _ => True) (fun _ => False) rfl rfl ?aP (fun _ hk => hk.elim) ?aF ?aO ?aB ?aS ?aL ?_; (case aP => exact rfl); (case aB => exact (by repeat (first | (with_reducible first | exact HB.out | apply below_alloc | apply pw_below_drewN | apply below_drew1) | exact HB.out))); (case aF => exact (fun _ _ => trivial)); (case aO => exact (by (with_reducible repeat (first | apply Kd.R_alloc | apply Kd.R_drewN | apply Kd.R_drew)); exact HO_4.out)); (case aS => exact (below_size (by repeat (first | (with_reducible first | exact HB.out | apply below_alloc | apply pw_below_drewN | apply below_drew1) | exact HB.out)))); (case aL => have := LMc16.out; omega); intro v102 w19 ho hb hg hat; rw [← Ny101.out] at ho; have n0_ := Aside0.mk (hb); have n1_ := Aside0.mk (ho); clear HB; clear HO_4; have HB := n0_; have HO103 := n1_; clear n0_ n1_; clear ho hb hg hat))
                    repeat (go_quiet (first | ((with_reducible refine gate_builtin (b := .append) (xs := #[.tmp 40, .tmp 46]) rfl ?_); (try (refine gate_guard (by rfl) ?_; dsimp only)); at_builtin; refine Kd.R_append (Kd.int .u32) (w0 := w) w.heap.size rfl (.tmp 40) (.tmp 46) 37 33 (.int .u32 0) 4 rfl Tryd.underlying37 info33 rfl (by decide) (by omega) u4 x4_1 (Go.bits .and .u32 (ji15) 65535) [.int .u32 (Go.bits .and .u32 (ji15) 65535)] (fun _ => True) (fun _ => False) rfl rfl ?aP (fun _ hk => hk.elim) ?aF ?aO ?aB ?aS ?aL ?_; (case aP => exact rfl); (case aB => exact (by repeat (first | (with_reducible first | exact HB.out | apply below_alloc | apply pw_below_drewN | apply below_drew1) | exact HB.out))); (case aF => exact (fun _ _ => trivial)); (case aO => exact (by (with_reducible repeat (first | apply Kd.R_alloc | apply Kd.R_drewN | apply Kd.R_drew)); exact HO_4.out)); (case aS => exact (below_size (by repeat (first | (with_reducible first | exact HB.out | apply below_alloc | apply pw_below_drewN | apply below_drew1) | exact HB.out)))); (case aL => have := LMc16.out; omega); intro v102 w19 ho hb hg hat; rw [← Ny101.out] at ho; have n0_ := Aside0.mk (hb); have n1_ := Aside0.mk (ho); clear HB; clear HO_4; have HB := n0_; have HO103 := n1_; clear n0_ n1_; clear ho hb hg hat)); try go_wp2_with (first | ((with_reducible refine gate_builtin (b := .append) (xs := #[.tmp 40, .tmp 46]) rfl ?_); (try (refine gate_guard (by rfl) ?_; dsimp only)); at_builtin; refine Kd.R_append (Kd.int .u32) (w0 := w) w.heap.size rfl (.tmp 40) (.tmp 46) 37 33 (.int .u32 0) 4 rfl Tryd.underlying37 info33 rfl (by decide) (by omega) u4 x4_1 (Go.bits .and .u32 (ji15) 65535) [.int .u32 (Go.bits .and .u32 (ji15) 65535)] (fun _ => True) (fun _ => False) rfl rfl ?aP (fun _ hk => hk.elim) ?aF ?aO ?aB ?aS ?aL ?_; (case aP => exact rfl); (case aB => exact (by repeat (first | (with_reducible first | exact HB.out | apply below_alloc | apply pw_below_drewN | apply below_drew1) | exact HB.out))); (case aF => exact (fun _ _ => trivial)); (case aO => exact (by (with_reducible repeat (first | apply Kd.R_alloc | apply Kd.R_drewN | apply Kd.R_drew)); exact HO_4.out)); (case aS => exact (below_size (by repeat (first | (with_reducible first | exact HB.out | apply below_alloc | apply pw_below_drewN | apply below_drew1) | exact HB.out)))); (case aL => have := LMc16.out; omega); intro v102 w19 ho hb hg hat; rw [← Ny101.out] at ho; have n0_ := Aside0.mk (hb); have n1_ := Aside0.mk (ho); clear HB; clear HO_4; have HB := n0_; have HO103 := n1_; clear n0_ n1_; clear ho hb hg hat)))
                    go_roundg kj2
                    case measure => have := HK1.out; have := HJ2.out; omega
                    case rel => exact ⟨(y101), (Go.bits .and .u32 (Go.bits .or .u32 ((x5_1 * 64) % 4294967296) ((x8_2) % 4294967296)) (((ji18) - 1) % 4294967296)), (ji13), (wrap64 (x14_1 + 1)), (by first | rfl | (simp; done) | (simp only [← hji18] <;> (first | rfl | simp)) | (simp [*]; done)), (by first | rfl | (simp; done) | (simp only [← hji13] <;> (first | rfl | simp)) | (simp [*]; done)), (by first | rfl | (simp; done) | (simp [*]; done)), (by first | exact H' | (rw [hji13, hji15, hji18]; exact H') | (simp only [hji13, hji15, hji18]; exact H')), ⟨by have := HK1.out; have := HJ2.out; omega⟩, ⟨by (with_reducible repeat (first | apply Kd.R_alloc | apply Kd.R_drewN | apply Kd.R_drew)); exact HO103.out⟩, ⟨by repeat (first | (with_reducible first | exact HB.out | apply below_alloc | apply pw_below_drewN | apply below_drew1) | exact HB.out)⟩⟩
                  · rw [if_neg c16] at H
                    exact absurd H (by simp)
                · rw [if_neg c14] at H
                  exact absurd H (by simp)
              · rw [if_neg c12] at H
                have c12b0 : decide (16 ≤ (wrap64 (x6_1 + 6))) = false := decide_eq_false c12
                clear c12
                obtain ⟨ji20, hji20⟩ : ∃ j_ : Int, (wrap64 (x6_1 + 6)) = j_ := ⟨_, rfl⟩
                replace H : (if 0 ≤ (ji20) then (spec_units9.l0 kj2 a0 x4_1 (Go.bits .and .u32 (Go.bits .or .u32 ((x5_1 * 64) % 4294967296) ((x8_2) % 4294967296)) (((shl .u32 1 (ji20)) - 1) % 4294967296)) ji20 (a0.size : Int) (wrap64 (x14_1 + 1))) else (none)) = some (r1, r2) := by first | (rw [hji20] at H; exact H) | (simp only [hji20] at H ⊢; exact H)
                (try rw [hji20] at c12b0)
                have hji20w : (IntKind.i64.wrap (x6_1 + 6)) = ji20 := (i64_w _).trans hji20
                by_cases c21 : 0 ≤ (ji20)
                · rw [if_pos c21] at H
                  have c21b0 := eq_true c21
                  have c21b1 : decide (0 ≤ (ji20)) = true := decide_eq_true c21
                  clear c21
                  obtain ⟨ji22, hji22⟩ : ∃ j_ : Int, (shl .u32 1 (ji20)) = j_ := ⟨_, rfl⟩
                  replace H : (spec_units9.l0 kj2 a0 x4_1 (Go.bits .and .u32 (Go.bits .or .u32 ((x5_1 * 64) % 4294967296) ((x8_2) % 4294967296)) (((ji22) - 1) % 4294967296)) ji20 (a0.size : Int) (wrap64 (x14_1 + 1))) = some (r1, r2) := by first | (rw [hji22] at H; exact H) | (simp only [hji22] at H ⊢; exact H)
                  have hji22_ : (IntKind.u32.wrap (1 * 2 ^ min (ji20).toNat 32)) = ji22 := hji22
                  have hji22z : (ji20) ≤ 32 → (IntKind.u32.wrap (1 * 2 ^ (ji20).toNat)) = ji22 := shl_small hji22
                  have hji22u : (IntKind.u32.wrap (2 ^ min (ji20).toNat 32)) = ji22 := by have h_ := hji22_; rw [Int.one_mul] at h_; exact h_
                  have hji22v : (ji20) ≤ 32 → (IntKind.u32.wrap (2 ^ (ji20).toNat)) = ji22 := fun hle_ => by have h_ := hji22z hle_; rw [Int.one_mul] at h_; exact h_
                  have H' := Aside0.mk H
                  clear H
                  go_wp2
                  repeat (go_quiet (fail); try go_wp2)
                  go_roundg kj2
                  case measure => have := HK1.out; have := HJ2.out; omega
                  case rel => exact ⟨(x4_1), (Go.bits .and .u32 (Go.bits .or .u32 ((x5_1 * 64) % 4294967296) ((x8_2) % 4294967296)) (((ji22) - 1) % 4294967296)), (ji20), (wrap64 (x14_1 + 1)), (by first | rfl | (simp; done) | (simp only [← hji22] <;> (first | rfl | simp)) | (simp [*]; done)), (by first | rfl | (simp; done) | (simp only [← hji20] <;> (first | rfl | simp)) | (simp [*]; done)), (by first | rfl | (simp; done) | (simp [*]; done)), (by first | exact H' | (rw [hji20, hji22]; exact H') | (simp only [hji20, hji22]; exact H')), ⟨by have := HK1.out; have := HJ2.out; omega⟩, ⟨by (with_reducible repeat (first | apply Kd.R_alloc | apply Kd.R_drewN | apply Kd.R_drew)); exact HO_4.out⟩, ⟨by repeat (first | (with_reducible first | exact HB.out | apply below_alloc | apply pw_below_drewN | apply below_drew1) | exact HB.out)⟩⟩
                · rw [if_neg c21] at H
                  exact absurd H (by simp)
      · rw [if_neg c2] at H
        have c2b0 : decide (x14_1 < (a0.size : Int)) = false := decide_eq_false c2
        clear c2
        have HC23 := Aside0.mk H
        clear H
        go_upto_region 17 with (fail)
        repeat (go_quiet (fail); go_upto_region 17 with (fail))
        go_cut [62] (fun v62 wc => ∃ (kq : Nat) (x62_22 : Bool), v62 = .bool x62_22 ∧ Aside0 (spec_units9.j3 kq x4_1 x62_22 = some (r1, r2)) ∧ Aside0 (kq ≤ k1) ∧ Aside0 (Kd.R (Kd.int .u32) 33 wc w.heap.size (fun _ => True) u4 x4_1) ∧ Aside0 (Below w.heap.size w wc))
        case first =>
          have H := HC23.out
          clear HC23
          by_cases c24 : x6_1 ≥ 6
          · rw [if_pos c24] at H
            have c24b0 : decide (6 ≤ x6_1) = true := decide_eq_true c24
            clear c24
            (first | rw [c24b0] | (simp only [i64_w, i32_w]; rw [c24b0]) | skip)
            have H' := Aside0.mk H
            clear H
            go_wp2
            repeat (go_quiet (fail); try go_wp2)
            go_meet
            case rel => exact ⟨_, (true), (by first | rfl | (simp; done) | (simp [*]; done)), H', ⟨by have := HK1.out; first | omega | exact Nat.le_refl _⟩, ⟨by (with_reducible repeat (first | apply Kd.R_alloc | apply Kd.R_drewN | apply Kd.R_drew)); exact HO_4.out⟩, ⟨by repeat (first | (with_reducible first | exact HB.out | apply below_alloc | apply pw_below_drewN | apply below_drew1) | exact HB.out)⟩⟩
          · rw [if_neg c24] at H
            have c24b0 : decide (6 ≤ x6_1) = false := decide_eq_false c24
            clear c24
            (first | rw [c24b0] | (simp only [i64_w, i32_w]; rw [c24b0]) | skip)
            have H' := Aside0.mk H
            clear H
            obtain ⟨Ao25, co25, eo25⟩ := Kd.R_slice HO_4.out
            subst eo25
            go_wp2
            repeat (go_quiet (fail); try go_wp2)
            go_meet
            case rel => exact ⟨_, (((x4_1.length : Int) == 0)), (by first | rfl | (simp; done) | (simp [*]; done)), H', ⟨by have := HK1.out; first | omega | exact Nat.le_refl _⟩, ⟨by (with_reducible repeat (first | apply Kd.R_alloc | apply Kd.R_drewN | apply Kd.R_drew)); exact HO_4.out⟩, ⟨by repeat (first | (with_reducible first | exact HB.out | apply below_alloc | apply pw_below_drewN | apply below_drew1) | exact HB.out)⟩⟩
        case rest =>
          clear HC23
          try clear c1
          try clear c2
          try clear c2b0
          try clear p2
          try clear c4
          try clear c4b0
          try clear c5
          try clear c5b0
          try clear p6
          try clear q6
          try clear hx6
          try clear c7
          try clear c7b0
          try clear c8
          try clear c8b0
          try clear p9
          try clear q9
          try clear hx9
          try clear c10
          try clear c10b0
          try clear c10b1
          try clear c11
          try clear c11b0
          try clear c11b1
          try clear c12
          try clear c12b0
          try clear c14
          try clear c14b0
          try clear c14b1
          try clear c16
          try clear c17
          try clear c17b0
          try clear c21
          try clear c21b0
          try clear c21b1
          try clear c24
          try clear c24b0
          try clear p2
          try clear p6
          try clear p9
          try clear q6
          try clear q9
          obtain ⟨kq, x62_22, rfl, HA, HJ22, HO_4, HB⟩ := hcut
          cases kq with
          | zero => exact absurd HA.out (by simp [spec_units9.j3])
          | succ kj22 =>
            have H := HA.out
            clear HA
            simp only [spec_units9.j3] at H
            by_cases c26 : x62_22 = true
            · subst c26
              have H1 : (some (([] : List Int), false)) = some (r1, r2) := by rw [if_pos rfl] at H; exact H
              clear H
              have H := H1
              clear H1
              simp only [Option.some.injEq, Prod.mk.injEq] at H
              obtain ⟨rfl, rfl⟩ := H
              go_wp2
              repeat (go_quiet (fail); try go_wp2)
              go_ret2
              exact ⟨_, by first | rfl | (simp [errW_none, errW_some] <;> rfl) | (simp [*, errW_none, errW_some] <;> rfl), by first | exact Kd.R_nil _ _ _ _ _ | exact Kd.N_nil _ _ _ _ _ | exact Kd.V_nil _ _ _ _ _ | exact Kd.Q_nil _ _ _ _ _ | exact Kd.S_nil _ _ _ _ _, by repeat (first | (with_reducible first | exact HB.out | apply below_alloc | apply pw_below_drewN | apply below_drew1) | exact HB.out)⟩
            · replace c26 := Bool.eq_false_iff.mpr c26
              subst c26
              have H1 : (spec_units9.l2 kj22 x4_1 ([] : List Int) 0) = some (r1, r2) := by rw [if_neg (show ¬ (false = true) by decide)] at H; exact H
              clear H
              have H := H1
              clear H1
              have H' := Aside0.mk H
              clear H
              go_wp2
              repeat (go_quiet (fail); try go_wp2)
              go_loopg [9, 10] kj22 (fun kq v9 v10 w' => ∃ (x9_3 : List Int) (x10_3 : Int), v10 = .int .i64 x10_3 ∧ Aside0 (spec_units9.l2 kq x4_1 x9_3 x10_3 = some (r1, r2)) ∧ Aside0 (kq ≤ kj22) ∧ Aside0 (Kd.R (Kd.int .u32) 33 w' w.heap.size (fun _ => True) u4 x4_1) ∧ Aside0 (Kd.R (Kd.int .i32) 21 w' w.heap.size (fun _ => True) v9 x9_3) ∧ Aside0 (Below w.heap.size w w'))
              case atStart => exact ⟨(([] : List Int)), (0), (by first | rfl | (simp; done) | (simp [*]; done)), H', ⟨Nat.le_refl _⟩, ⟨by (with_reducible repeat (first | apply Kd.R_alloc | apply Kd.R_drewN | apply Kd.R_drew)); exact HO_4.out⟩, ⟨by first | exact Kd.R_nil _ _ _ _ _ | exact Kd.N_nil _ _ _ _ _ | exact Kd.V_nil _ _ _ _ _ | exact Kd.Q_nil _ _ _ _ _ | exact Kd.S_nil _ _ _ _ _⟩, ⟨by repeat (first | (with_reducible first | exact HB.out | apply below_alloc | apply pw_below_drewN | apply below_drew1) | exact HB.out)⟩⟩
              case round =>
                clear H'
                try clear c1
                try clear c2
                try clear c2b0
                try clear p2
                try clear c4
                try clear c4b0
                try clear c5
                try clear c5b0
                try clear p6
                try clear q6
                try clear hx6
                try clear c7
                try clear c7b0
                try clear c8
                try clear c8b0
                try clear p9
                try clear q9
                try clear hx9
                try clear c10
                try clear c10b0
                try clear c10b1
                try clear c11
                try clear c11b0
                try clear c11b1
                try clear c12
                try clear c12b0
                try clear c14
                try clear c14b0
                try clear c14b1
                try clear c16
                try clear c17
                try clear c17b0
                try clear c21
                try clear c21b0
                try clear c21b1
                try clear c24
                try clear c24b0
                try clear c26
                try clear p2
                try clear p6
                try clear p9
                try clear q6
                try clear q9
                obtain ⟨x9_3, x10_3, rfl, HA, HK3, HO_4, HO_9, HB⟩ := hrel
                cases gk with
                | zero => exact absurd HA.out (by simp [spec_units9.l2])
                | succ k3 =>
                  have H := HA.out
                  clear HA
                  simp only [spec_units9.l2] at H
                  by_cases c27 : x10_3 < (x4_1.length : Int)
                  · rw [if_pos c27] at H
                    have c27b0 : decide (x10_3 < (x4_1.length : Int)) = true := decide_eq_true c27
                    clear c27
                    by_cases c28 : 0 ≤ x10_3
                    · rw [if_pos c28] at H
                      have c28b0 : decide (0 ≤ x10_3) = true := decide_eq_true c28
                      clear c28
                      replace H := Option.bind_eq_some_iff.mp H
                      obtain ⟨t105, A290, H⟩ := H
                      replace H : (if t105 = true then (spec_units9.j5 k3 x4_1 x9_3 x10_3 (rd x4_1 x10_3) t105) else (if (rd x4_1 x10_3) ≥ 56320 then (spec_units9.j5 k3 x4_1 x9_3 x10_3 (rd x4_1 x10_3) (decide ((rd x4_1 x10_3) ≤ 57343))) else (spec_units9.j5 k3 x4_1 x9_3 x10_3 (rd x4_1 x10_3) false))) = some (r1, r2) := H
                      have A29 := Aside0.mk A290
                      clear A290
                      have HC30 := Aside0.mk H
                      clear H
                      obtain ⟨Ao31, co31, eo31⟩ := Kd.R_slice HO_4.out
                      subst eo31
                      have p104 : 0 ≤ (x10_3 : Int) := of_decide_eq_true (by first | (with_reducible assumption) | assumption)
                      have q104 : x10_3 < (x4_1.length : Int) := of_decide_eq_true (by first | (with_reducible assumption) | assumption)
                      obtain ⟨ad104, e104, hx104_0⟩ := Kd.at_int (Kd.R_reads' HO_4.out).2.2 x10_3 p104 q104
                      cases e104
                      replace p104 := eq_true p104
                      replace q104 := eq_true q104
                      go_upto_if 78 with (first | (go_at_call 15; (with_reducible refine (spec_plain9.calls (rd x4_1 x10_3) t105 _ A29.out).mono ?_); rintro e w' ⟨rfl, ⟨nd, rfl⟩⟩; (try first | exact ⟨rfl, _, World.drewN_drewN _ _ _⟩ | exact ⟨rfl, _, Eq.trans (World.drewN_drewN _ _ _) (congrArg (World.drewN _) (Nat.add_assoc _ _ _))⟩)))
                      repeat (go_quiet (first | (go_at_call 15; (with_reducible refine (spec_plain9.calls (rd x4_1 x10_3) t105 _ A29.out).mono ?_); rintro e w' ⟨rfl, ⟨nd, rfl⟩⟩; (try first | exact ⟨rfl, _, World.drewN_drewN _ _ _⟩ | exact ⟨rfl, _, Eq.trans (World.drewN_drewN _ _ _) (congrArg (World.drewN _) (Nat.add_assoc _ _ _))⟩))); go_upto_if 78 with (first | (go_at_call 15; (with_reducible refine (spec_plain9.calls (rd x4_1 x10_3) t105 _ A29.out).mono ?_); rintro e w' ⟨rfl, ⟨nd, rfl⟩⟩; (try first | exact ⟨rfl, _, World.drewN_drewN _ _ _⟩ | exact ⟨rfl, _, Eq.trans (World.drewN_drewN _ _ _) (congrArg (World.drewN _) (Nat.add_assoc _ _ _))⟩))))
                      (try simp only [Act.put, List.setIfInBounds_toArray, List.set_cons_zero, List.set_cons_succ])
                      go_cut [78] (fun v78 wc => ∃ (kq : Nat) (x78_29 : Bool), v78 = .bool x78_29 ∧ Aside0 (spec_units9.j5 kq x4_1 x9_3 x10_3 (rd x4_1 x10_3) x78_29 = some (r1, r2)) ∧ Aside0 (kq ≤ k3) ∧ Aside0 (Kd.R (Kd.int .u32) 33 wc w.heap.size (fun _ => True) (.slice (some ad104) x4_1.length co31) x4_1) ∧ Aside0 (Kd.R (Kd.int .i32) 21 wc w.heap.size (fun _ => True) u9 x9_3) ∧ Aside0 (Below w.heap.size w wc))
                      case first =>
                        have H := HC30.out
                        clear HC30
                        by_cases c32 : t105 = true
                        · subst c32
                          have H1 : (spec_units9.j5 k3 x4_1 x9_3 x10_3 (rd x4_1 x10_3) true) = some (r1, r2) := by rw [if_pos rfl] at H; exact H
                          clear H
                          have H := H1
                          clear H1
                          have H' := Aside0.mk H
                          clear H
                          go_wp2
                          repeat (go_quiet (fail); try go_wp2)
                          go_meet
                          case rel => exact ⟨_, (true), (by first | rfl | (simp; done) | (simp [*]; done)), H', ⟨by have := HK1.out; have := HJ22.out; have := HK3.out; first | omega | exact Nat.le_refl _⟩, ⟨by (with_reducible repeat (first | apply Kd.R_alloc | apply Kd.R_drewN | apply Kd.R_drew)); exact HO_4.out⟩, ⟨by (with_reducible repeat (first | apply Kd.R_alloc | apply Kd.R_drewN | apply Kd.R_drew)); exact HO_9.out⟩, ⟨by repeat (first | (with_reducible first | exact HB.out | apply below_alloc | apply pw_below_drewN | apply below_drew1) | exact HB.out)⟩⟩
                        · replace c32 := Bool.eq_false_iff.mpr c32
                          subst c32
                          have H1 : (if (rd x4_1 x10_3) ≥ 56320 then (spec_units9.j5 k3 x4_1 x9_3 x10_3 (rd x4_1 x10_3) (decide ((rd x4_1 x10_3) ≤ 57343))) else (spec_units9.j5 k3 x4_1 x9_3 x10_3 (rd x4_1 x10_3) false)) = some (r1, r2) := by rw [if_neg (show ¬ (false = true) by decide)] at H; exact H
                          clear H
                          have H := H1
                          clear H1
                          by_cases c33 : (rd x4_1 x10_3) ≥ 56320
                          · rw [if_pos c33] at H
                            have c33b0 : decide (56320 ≤ (rd x4_1 x10_3)) = true := decide_eq_true c33
                            clear c33
                            (first | rw [c33b0] | (simp only [i64_w, i32_w]; rw [c33b0]) | skip)
                            have H' := Aside0.mk H
                            clear H
                            go_wp2
                            repeat (go_quiet (fail); try go_wp2)
                            go_meet
                            case rel => exact ⟨_, (decide ((rd x4_1 x10_3) ≤ 57343)), (by first | rfl | (simp; done) | (simp [*]; done)), H', ⟨by have := HK1.out; have := HJ22.out; have := HK3.out; first | omega | exact Nat.le_refl _⟩, ⟨by (with_reducible repeat (first | apply Kd.R_alloc | apply Kd.R_drewN | apply Kd.R_drew)); exact HO_4.out⟩, ⟨by (with_reducible repeat (first | apply Kd.R_alloc | apply Kd.R_drewN | apply Kd.R_drew)); exact HO_9.out⟩, ⟨by repeat (first | (with_reducible first | exact HB.out | apply below_alloc | apply pw_below_drewN | apply below_drew1) | exact HB.out)⟩⟩
                          · rw [if_neg c33] at H
                            have c33b0 : decide (56320 ≤ (rd x4_1 x10_3)) = false := decide_eq_false c33
                            clear c33
                            (first | rw [c33b0] | (simp only [i64_w, i32_w]; rw [c33b0]) | skip)
                            have H' := Aside0.mk H
                            clear H
                            go_wp2
                            repeat (go_quiet (fail); try go_wp2)
                            go_meet
                            case rel => exact ⟨_, (false), (by first | rfl | (simp; done) | (simp [*]; done)), H', ⟨by have := HK1.out; have := HJ22.out; have := HK3.out; first | omega | exact Nat.le_refl _⟩, ⟨by (with_reducible repeat (first | apply Kd.R_alloc | apply Kd.R_drewN | apply Kd.R_drew)); exact HO_4.out⟩, ⟨by (with_reducible repeat (first | apply Kd.R_alloc | apply Kd.R_drewN | apply Kd.R_drew)); exact HO_9.out⟩, ⟨by repeat (first | (with_reducible first | exact HB.out | apply below_alloc | apply pw_below_drewN | apply below_drew1) | exact HB.out)⟩⟩
                      case rest =>
                        clear HC30
                        try clear c1
                        try clear p1
                        try clear q1
                        try clear hx1
                        try clear c2
                        try clear c2b0
                        try clear p2
                        try clear c3
                        try clear c4
                        try clear c4b0
                        try clear c5
                        try clear c5b0
                        try clear p6
                        try clear q6
                        try clear hx6
                        try clear c7
                        try clear c7b0
                        try clear c8
                        try clear c8b0
                        try clear p9
                        try clear q9
                        try clear hx9
                        try clear c10
                        try clear c10b0
                        try clear c10b1
                        try clear p10
                        try clear q10
                        try clear hx10
                        try clear c11
                        try clear c11b0
                        try clear c11b1
                        try clear c12
                        try clear c12b0
                        try clear c14
                        try clear c14b0
                        try clear c14b1
                        try clear c16
                        try clear c17
                        try clear c17b0
                        try clear c21
                        try clear c21b0
                        try clear c21b1
                        try clear c24
                        try clear c24b0
                        try clear c26
                        try clear c27
                        try clear c27b0
                        try clear c28
                        try clear c28b0
                        try clear c32
                        try clear c33
                        try clear c33b0
                        try clear hx104_0
                        try clear p104
                        try clear p2
                        try clear p6
                        try clear p9
                        try clear q104
                        try clear q6
                        try clear q9
                        obtain ⟨kq, x78_29, rfl, HA, HJ29, HO_4, HO_9, HB⟩ := hcut
                        cases kq with
                        | zero => exact absurd HA.out (by simp [spec_units9.j5])
                        | succ kj29 =>
                          have H := HA.out
                          clear HA
                          simp only [spec_units9.j5] at H
                          by_cases c34 : x78_29 = true
                          · subst c34
                            have H1 : (some (([] : List Int), false)) = some (r1, r2) := by rw [if_pos rfl] at H; exact H
                            clear H
                            have H := H1
                            clear H1
                            simp only [Option.some.injEq, Prod.mk.injEq] at H
                            obtain ⟨rfl, rfl⟩ := H
                            go_wp2
                            repeat (go_quiet (fail); try go_wp2)
                            go_ret2
                            exact ⟨_, by first | rfl | (simp [errW_none, errW_some] <;> rfl) | (simp [*, errW_none, errW_some] <;> rfl), by first | exact Kd.R_nil _ _ _ _ _ | exact Kd.N_nil _ _ _ _ _ | exact Kd.V_nil _ _ _ _ _ | exact Kd.Q_nil _ _ _ _ _ | exact Kd.S_nil _ _ _ _ _, by repeat (first | (with_reducible first | exact HB.out | apply below_alloc | apply pw_below_drewN | apply below_drew1) | exact HB.out)⟩
                          · replace c34 := Bool.eq_false_iff.mpr c34
                            subst c34
                            have H1 : (if (rd x4_1 x10_3) ≥ 55296 then (spec_units9.j6 kj29 x4_1 x9_3 x10_3 (rd x4_1 x10_3) (decide ((rd x4_1 x10_3) ≤ 56319))) else (spec_units9.j6 kj29 x4_1 x9_3 x10_3 (rd x4_1 x10_3) false)) = some (r1, r2) := by rw [if_neg (show ¬ (false = true) by decide)] at H; exact H
                            clear H
                            have H := H1
                            clear H1
                            have HC35 := Aside0.mk H
                            clear H
                            go_upto_region 28 with (fail)
                            repeat (go_quiet (fail); go_upto_region 28 with (fail))
                            go_cut [87] (fun v87 wc => ∃ (kq : Nat) (x87_34 : Bool), v87 = .bool x87_34 ∧ Aside0 (spec_units9.j6 kq x4_1 x9_3 x10_3 (rd x4_1 x10_3) x87_34 = some (r1, r2)) ∧ Aside0 (kq ≤ kj29) ∧ Aside0 (Kd.R (Kd.int .u32) 33 wc w.heap.size (fun _ => True) (.slice (some ad104) x4_1.length co31) x4_1) ∧ Aside0 (Kd.R (Kd.int .i32) 21 wc w.heap.size (fun _ => True) u9 x9_3) ∧ Aside0 (Below w.heap.size w wc))
                            case first =>
                              have H := HC35.out
                              clear HC35
                              by_cases c36 : (rd x4_1 x10_3) ≥ 55296
                              · rw [if_pos c36] at H
                                have c36b0 : decide (55296 ≤ (rd x4_1 x10_3)) = true := decide_eq_true c36
                                clear c36
                                (first | rw [c36b0] | (simp only [i64_w, i32_w]; rw [c36b0]) | skip)
                                have H' := Aside0.mk H
                                clear H
                                go_wp2
                                repeat (go_quiet (fail); try go_wp2)
                                go_meet
                                case rel => exact ⟨_, (decide ((rd x4_1 x10_3) ≤ 56319)), (by first | rfl | (simp; done) | (simp [*]; done)), H', ⟨by have := HK1.out; have := HJ22.out; have := HK3.out; have := HJ29.out; first | omega | exact Nat.le_refl _⟩, ⟨by (with_reducible repeat (first | apply Kd.R_alloc | apply Kd.R_drewN | apply Kd.R_drew)); exact HO_4.out⟩, ⟨by (with_reducible repeat (first | apply Kd.R_alloc | apply Kd.R_drewN | apply Kd.R_drew)); exact HO_9.out⟩, ⟨by repeat (first | (with_reducible first | exact HB.out | apply below_alloc | apply pw_below_drewN | apply below_drew1) | exact HB.out)⟩⟩
                              · rw [if_neg c36] at H
                                have c36b0 : decide (55296 ≤ (rd x4_1 x10_3)) = false := decide_eq_false c36
                                clear c36
                                (first | rw [c36b0] | (simp only [i64_w, i32_w]; rw [c36b0]) | skip)
                                have H' := Aside0.mk H
                                clear H
                                go_wp2
                                repeat (go_quiet (fail); try go_wp2)
                                go_meet
                                case rel => exact ⟨_, (false), (by first | rfl | (simp; done) | (simp [*]; done)), H', ⟨by have := HK1.out; have := HJ22.out; have := HK3.out; have := HJ29.out; first | omega | exact Nat.le_refl _⟩, ⟨by (with_reducible repeat (first | apply Kd.R_alloc | apply Kd.R_drewN | apply Kd.R_drew)); exact HO_4.out⟩, ⟨by (with_reducible repeat (first | apply Kd.R_alloc | apply Kd.R_drewN | apply Kd.R_drew)); exact HO_9.out⟩, ⟨by repeat (first | (with_reducible first | exact HB.out | apply below_alloc | apply pw_below_drewN | apply below_drew1) | exact HB.out)⟩⟩
                            case rest =>
                              clear HC35
                              try clear c1
                              try clear p1
                              try clear q1
                              try clear hx1
                              try clear c2
                              try clear c2b0
                              try clear p2
                              try clear c3
                              try clear c4
                              try clear c4b0
                              try clear c5
                              try clear c5b0
                              try clear p6
                              try clear q6
                              try clear hx6
                              try clear c7
                              try clear c7b0
                              try clear c8
                              try clear c8b0
                              try clear p9
                              try clear q9
                              try clear hx9
                              try clear c10
                              try clear c10b0
                              try clear c10b1
                              try clear p10
                              try clear q10
                              try clear hx10
                              try clear c11
                              try clear c11b0
                              try clear c11b1
                              try clear c12
                              try clear c12b0
                              try clear c14
                              try clear c14b0
                              try clear c14b1
                              try clear c16
                              try clear c17
                              try clear c17b0
                              try clear c21
                              try clear c21b0
                              try clear c21b1
                              try clear c24
                              try clear c24b0
                              try clear c26
                              try clear c27
                              try clear c27b0
                              try clear c28
                              try clear c28b0
                              try clear c32
                              try clear c33
                              try clear c33b0
                              try clear c34
                              try clear c36
                              try clear c36b0
                              try clear hx104_0
                              try clear p1
                              try clear p10
                              try clear p104
                              try clear p2
                              try clear p6
                              try clear p9
                              try clear q1
                              try clear q10
                              try clear q104
                              try clear q6
                              try clear q9
                              obtain ⟨kq, x87_34, rfl, HA, HJ34, HO_4, HO_9, HB⟩ := hcut
                              cases kq with
                              | zero => exact absurd HA.out (by simp [spec_units9.j6])
                              | succ kj34 =>
                                have H := HA.out
                                clear HA
                                simp only [spec_units9.j6] at H
                                by_cases c37 : x87_34 = true
                                · subst c37
                                  have H1 : (if (wrap64 (x10_3 + 1)) = (x4_1.length : Int) then (some (([] : List Int), false)) else (if 0 ≤ (wrap64 (x10_3 + 1)) then (if (wrap64 (x10_3 + 1)) < (x4_1.length : Int) then (if (rd x4_1 (wrap64 (x10_3 + 1))) < 56320 then (some (([] : List Int), false)) else (if (rd x4_1 (wrap64 (x10_3 + 1))) > 57343 then (some (([] : List Int), false)) else (if x9_3.length < 35184372088832 then (spec_units9.l2 kj34 x4_1 (x9_3 ++ [wrap32 ((((65536 + (((((rd x4_1 x10_3) - 55296) % 4294967296) * 1024) % 4294967296)) % 4294967296) + (((rd x4_1 (wrap64 (x10_3 + 1))) - 56320) % 4294967296)) % 4294967296)]) (wrap64 ((wrap64 (x10_3 + 1)) + 1))) else (none)))) else (none)) else (none))) = some (r1, r2) := by rw [if_pos rfl] at H; exact H
                                  clear H
                                  have H := H1
                                  clear H1
                                  by_cases c38 : (wrap64 (x10_3 + 1)) = (x4_1.length : Int)
                                  · rw [if_pos c38] at H
                                    have c38b0 : ((wrap64 (x10_3 + 1)) == (x4_1.length : Int)) = true := beq_iff_eq.mpr c38
                                    have c38b1 : ((wrap64 (x10_3 + 1)) != (x4_1.length : Int)) = false := bne_eq_false_iff_eq.mpr c38
                                    clear c38
                                    simp only [Option.some.injEq, Prod.mk.injEq] at H
                                    obtain ⟨rfl, rfl⟩ := H
                                    go_wp2
                                    repeat (go_quiet (fail); try go_wp2)
                                    go_ret2
                                    exact ⟨_, by first | rfl | (simp [errW_none, errW_some] <;> rfl) | (simp [*, errW_none, errW_some] <;> rfl), by first | exact Kd.R_nil _ _ _ _ _ | exact Kd.N_nil _ _ _ _ _ | exact Kd.V_nil _ _ _ _ _ | exact Kd.Q_nil _ _ _ _ _ | exact Kd.S_nil _ _ _ _ _, by repeat (first | (with_reducible first | exact HB.out | apply below_alloc | apply pw_below_drewN | apply below_drew1) | exact HB.out)⟩
                                  · rw [if_neg c38] at H
                                    have c38b0 : ((wrap64 (x10_3 + 1)) == (x4_1.length : Int)) = false := beq_eq_false_iff_ne.mpr c38
                                    have c38b1 : ((wrap64 (x10_3 + 1)) != (x4_1.length : Int)) = true := bne_iff_ne.mpr c38
                                    obtain ⟨ji39, hji39⟩ : ∃ j_ : Int, (wrap64 (x10_3 + 1)) = j_ := ⟨_, rfl⟩
                                    replace H : (if 0 ≤ (ji39) then (if (ji39) < (x4_1.length : Int) then (if (rd x4_1 (ji39)) < 56320 then (some (([] : List Int), false)) else (if (rd x4_1 (ji39)) > 57343 then (some (([] : List Int), false)) else (if x9_3.length < 35184372088832 then (spec_units9.l2 kj34 x4_1 (x9_3 ++ [wrap32 ((((65536 + (((((rd x4_1 x10_3) - 55296) % 4294967296) * 1024) % 4294967296)) % 4294967296) + (((rd x4_1 (ji39)) - 56320) % 4294967296)) % 4294967296)]) (wrap64 ((ji39) + 1))) else (none)))) else (none)) else (none)) = some (r1, r2) := by first | (rw [hji39] at H; exact H) | (simp only [hji39] at H ⊢; exact H)
                                    (try rw [hji39] at c38b0)
                                    (try rw [hji39] at c38b1)
                                    have hji39w : (IntKind.i64.wrap (x10_3 + 1)) = ji39 := (i64_w _).trans hji39
                                    by_cases c40 : 0 ≤ (ji39)
                                    · rw [if_pos c40] at H
                                      have c40b0 : decide (0 ≤ (ji39)) = true := decide_eq_true c40
                                      clear c40
                                      by_cases c41 : (ji39) < (x4_1.length : Int)
                                      · rw [if_pos c41] at H
                                        have c41b0 : decide ((ji39) < (x4_1.length : Int)) = true := decide_eq_true c41
                                        clear c41
                                        by_cases c42 : (rd x4_1 (ji39)) < 56320
                                        · rw [if_pos c42] at H
                                          have c42b0 : decide ((rd x4_1 (ji39)) < 56320) = true := decide_eq_true c42
                                          clear c42
                                          simp only [Option.some.injEq, Prod.mk.injEq] at H
                                          obtain ⟨rfl, rfl⟩ := H
                                          have p106 : 0 ≤ ((ji39) : Int) := of_decide_eq_true (by first | (with_reducible assumption) | assumption)
                                          have q106 : (ji39) < (x4_1.length : Int) := of_decide_eq_true (by first | (with_reducible assumption) | assumption)
                                          obtain ⟨ad106, e106, hx106_0⟩ := Kd.at_int (Kd.R_reads' HO_4.out).2.2 (ji39) p106 q106
                                          obtain rfl : ad104 = ad106 := (by injection e106)
                                          replace p106 := eq_true p106
                                          replace q106 := eq_true q106
                                          go_wp2
                                          repeat (go_quiet (fail); try go_wp2)
                                          go_ret2
                                          exact ⟨_, by first | rfl | (simp [errW_none, errW_some] <;> rfl) | (simp only [← hji39]; first | rfl | (simp [errW_none, errW_some] <;> rfl)) | (simp [*, errW_none, errW_some] <;> rfl), by first | exact Kd.R_nil _ _ _ _ _ | exact Kd.N_nil _ _ _ _ _ | exact Kd.V_nil _ _ _ _ _ | exact Kd.Q_nil _ _ _ _ _ | exact Kd.S_nil _ _ _ _ _, by repeat (first | (with_reducible first | exact HB.out | apply below_alloc | apply pw_below_drewN | apply below_drew1) | exact HB.out)⟩
                                        · rw [if_neg c42] at H
                                          have c42b0 : decide ((rd x4_1 (ji39)) < 56320) = false := decide_eq_false c42
                                          clear c42
                                          by_cases c43 : (rd x4_1 (ji39)) > 57343
                                          · rw [if_pos c43] at H
                                            have c43b0 : decide (57343 < (rd x4_1 (ji39))) = true := decide_eq_true c43
                                            clear c43
                                            simp only [Option.some.injEq, Prod.mk.injEq] at H
                                            obtain ⟨rfl, rfl⟩ := H
                                            have p106 : 0 ≤ ((ji39) : Int) := of_decide_eq_true (by first | (with_reducible assumption) | assumption)
                                            have q106 : (ji39) < (x4_1.length : Int) := of_decide_eq_true (by first | (with_reducible assumption) | assumption)
                                            obtain ⟨ad106, e106, hx106_0⟩ := Kd.at_int (Kd.R_reads' HO_4.out).2.2 (ji39) p106 q106
                                            obtain rfl : ad104 = ad106 := (by injection e106)
                                            replace p106 := eq_true p106
                                            replace q106 := eq_true q106
                                            have p107 : 0 ≤ ((ji39) : Int) := of_decide_eq_true (by first | (with_reducible assumption) | assumption)
                                            have q107 : (ji39) < (x4_1.length : Int) := of_decide_eq_true (by first | (with_reducible assumption) | assumption)
                                            obtain ⟨ad107, e107, hx107_0⟩ := Kd.at_int (Kd.R_reads' HO_4.out).2.2 (ji39) p107 q107
                                            obtain rfl : ad104 = ad107 := (by injection e107)
                                            replace p107 := eq_true p107
                                            replace q107 := eq_true q107
                                            go_wp2
                                            repeat (go_quiet (fail); try go_wp2)
                                            go_ret2
                                            exact ⟨_, by first | rfl | (simp [errW_none, errW_some] <;> rfl) | (simp only [← hji39]; first | rfl | (simp [errW_none, errW_some] <;> rfl)) | (simp [*, errW_none, errW_some] <;> rfl), by first | exact Kd.R_nil _ _ _ _ _ | exact Kd.N_nil _ _ _ _ _ | exact Kd.V_nil _ _ _ _ _ | exact Kd.Q_nil _ _ _ _ _ | exact Kd.S_nil _ _ _ _ _, by repeat (first | (with_reducible first | exact HB.out | apply below_alloc | apply pw_below_drewN | apply below_drew1) | exact HB.out)⟩
                                          · rw [if_neg c43] at H
                                            have c43b0 : decide (57343 < (rd x4_1 (ji39))) = false := decide_eq_false c43
                                            clear c43
                                            by_cases c44 : x9_3.length < 35184372088832
                                            · rw [if_pos c44] at H
                                              have LMc44 := Aside0.mk c44
                                              clear c44
                                              obtain ⟨y109, hy109⟩ : ∃ y_ : List Int, y_ = (x9_3 ++ [wrap32 ((((65536 + (((((rd x4_1 x10_3) - 55296) % 4294967296) * 1024) % 4294967296)) % 4294967296) + (((rd x4_1 (ji39)) - 56320) % 4294967296)) % 4294967296)]) := ⟨_, rfl⟩
                                              replace H : (spec_units9.l2 kj34 x4_1 y109 (wrap64 ((ji39) + 1))) = some (r1, r2) := by first | (rw [hy109]; with_reducible exact H) | (have H2_ := (Option.bind_some _ _).symm.trans H; rw [hy109]; with_reducible exact H2_) | (have H2_ := (Option.bind_some _ _).symm.trans H; with_reducible exact H2_) | with_reducible exact H | (rw [hy109]; exact H) | exact H
                                              have Ny109 := Aside0.mk hy109
                                              clear hy109
                                              have H' := Aside0.mk H
                                              clear H
                                              have p106 : 0 ≤ ((ji39) : Int) := of_decide_eq_true (by first | (with_reducible assumption) | assumption)
                                              have q106 : (ji39) < (x4_1.length : Int) := of_decide_eq_true (by first | (with_reducible assumption) | assumption)
                                              obtain ⟨ad106, e106, hx106_0⟩ := Kd.at_int (Kd.R_reads' HO_4.out).2.2 (ji39) p106 q106
                                              obtain rfl : ad104 = ad106 := (by injection e106)
                                              replace p106 := eq_true p106
                                              replace q106 := eq_true q106
                                              have p107 : 0 ≤ ((ji39) : Int) := of_decide_eq_true (by first | (with_reducible assumption) | assumption)
                                              have q107 : (ji39) < (x4_1.length : Int) := of_decide_eq_true (by first | (with_reducible assumption) | assumption)
                                              obtain ⟨ad107, e107, hx107_0⟩ := Kd.at_int (Kd.R_reads' HO_4.out).2.2 (ji39) p107 q107
                                              obtain rfl : ad104 = ad107 := (by injection e107)
                                              replace p107 := eq_true p107
                                              replace q107 := eq_true q107
                                              have p108 : 0 ≤ ((ji39) : Int) := of_decide_eq_true (by first | (with_reducible assumption) | assumption)
                                              have q108 : (ji39) < (x4_1.length : Int) := of_decide_eq_true (by first | (with_reducible assumption) | assumption)
                                              obtain ⟨ad108, e108, hx108_0⟩ := Kd.at_int (Kd.R_reads' HO_4.out).2.2 (ji39) p108 q108
                                              obtain rfl : ad104 = ad108 := (by injection e108)
                                              replace p108 := eq_true p108
                                              replace q108 := eq_true q108
                                              go_wp2_with (first | ((with_reducible refine gate_builtin (b := .append) (xs := #[.tmp 115, .tmp 128]) rfl ?_); (try (refine gate_guard (by rfl) ?_; dsimp only)); at_builtin; refine Kd.R_append (Kd.int .i32) (w0 := w) w.heap.size rfl (.tmp 115) (.tmp 128) 26 21 (.int .i32 0) 4 rfl Tryd.underlying26 info21 rfl (by decide) (by omega) u9 x9_3 (wrap32 ((65536 + (rd x4_1 x10_3 - 55296) % 4294967296 * 1024 + (rd x4_1 (ji39) - 56320)) % 4294967296)) [.int .i32 (wrap32 ((65536 + (rd x4_1 x10_3 - 55296) % 4294967296 * 1024 + (rd x4_1 (ji39) - 56320)) % 4294967296))] (fun _ => True) (fun _ => False) rfl rfl ?aP (fun _ hk => hk.elim) ?aF ?aO ?aB ?aS ?aL ?_; (case aP => exact rfl); (case aB => exact (by repeat (first | (with_reducible first | exact HB.out | apply below_alloc | apply pw_below_drewN | apply below_drew1) | exact HB.out))); (case aF => exact (fun _ _ => trivial)); (case aO => exact (by (with_reducible repeat (first | apply Kd.R_alloc | apply Kd.R_drewN | apply Kd.R_drew)); exact HO_9.out)); (case aS => exact (below_size (by repeat (first | (with_reducible first | exact HB.out | apply below_alloc | apply pw_below_drewN | apply below_drew1) | exact HB.out)))); (case aL => have := LMc44.out; omega); intro v110 w45 ho hb hg hat; rw [show wrap32 ((65536 + (rd x4_1 x10_3 - 55296) % 4294967296 * 1024 + (rd x4_1 (ji39) - 56320)) % 4294967296) = wrap32 ((((65536 + (((((rd x4_1 x10_3) - 55296) % 4294967296) * 1024) % 4294967296)) % 4294967296) + (((rd x4_1 (ji39)) - 56320) % 4294967296)) % 4294967296) from congrArg wrap32 (by omega)] at ho; rw [← Ny109.out] at ho; have n0_ := Aside0.mk (Kd.R_over' (by (with_reducible repeat (first | apply Kd.R_alloc | apply Kd.R_drewN | apply Kd.R_drew)); exact HO_4.out) (Kd.R_typed (by (with_reducible repeat (first | apply Kd.R_alloc | apply Kd.R_drewN | apply Kd.R_drew)); exact HO_9.out)) (by decide) hg); have n1_ := Aside0.mk (hb); have n2_ := Aside0.mk (ho); clear HO_4; clear HB; clear HO_9; have HO_4 := n0_; have HB := n1_; have HO111 := n2_; clear n0_ n1_ n2_; clear ho hb hg hat))
                                              repeat (go_quiet (first | ((with_reducible refine gate_builtin (b := .append) (xs := #[.tmp 115, .tmp 128]) rfl ?_); (try (refine gate_guard (by rfl) ?_; dsimp only)); at_builtin; refine Kd.R_append (Kd.int .i32) (w0 := w) w.heap.size rfl (.tmp 115) (.tmp 128) 26 21 (.int .i32 0) 4 rfl Tryd.underlying26 info21 rfl (by decide) (by omega) u9 x9_3 (wrap32 ((65536 + (rd x4_1 x10_3 - 55296) % 4294967296 * 1024 + (rd x4_1 (ji39) - 56320)) % 4294967296)) [.int .i32 (wrap32 ((65536 + (rd x4_1 x10_3 - 55296) % 4294967296 * 1024 + (rd x4_1 (ji39) - 56320)) % 4294967296))] (fun _ => True) (fun _ => False) rfl rfl ?aP (fun _ hk => hk.elim) ?aF ?aO ?aB ?aS ?aL ?_; (case aP => exact rfl); (case aB => exact (by repeat (first | (with_reducible first | exact HB.out | apply below_alloc | apply pw_below_drewN | apply below_drew1) | exact HB.out))); (case aF => exact (fun _ _ => trivial)); (case aO => exact (by (with_reducible repeat (first | apply Kd.R_alloc | apply Kd.R_drewN | apply Kd.R_drew)); exact HO_9.out)); (case aS => exact (below_size (by repeat (first | (with_reducible first | exact HB.out | apply below_alloc | apply pw_below_drewN | apply below_drew1) | exact HB.out)))); (case aL => have := LMc44.out; omega); intro v110 w45 ho hb hg hat; rw [show wrap32 ((65536 + (rd x4_1 x10_3 - 55296) % 4294967296 * 1024 + (rd x4_1 (ji39) - 56320)) % 4294967296) = wrap32 ((((65536 + (((((rd x4_1 x10_3) - 55296) % 4294967296) * 1024) % 4294967296)) % 4294967296) + (((rd x4_1 (ji39)) - 56320) % 4294967296)) % 4294967296) from congrArg wrap32 (by omega)] at ho; rw [← Ny109.out] at ho; have n0_ := Aside0.mk (Kd.R_over' (by (with_reducible repeat (first | apply Kd.R_alloc | apply Kd.R_drewN | apply Kd.R_drew)); exact HO_4.out) (Kd.R_typed (by (with_reducible repeat (first | apply Kd.R_alloc | apply Kd.R_drewN | apply Kd.R_drew)); exact HO_9.out)) (by decide) hg); have n1_ := Aside0.mk (hb); have n2_ := Aside0.mk (ho); clear HO_4; clear HB; clear HO_9; have HO_4 := n0_; have HB := n1_; have HO111 := n2_; clear n0_ n1_ n2_; clear ho hb hg hat)); try go_wp2_with (first | ((with_reducible refine gate_builtin (b := .append) (xs := #[.tmp 115, .tmp 128]) rfl ?_); (try (refine gate_guard (by rfl) ?_; dsimp only)); at_builtin; refine Kd.R_append (Kd.int .i32) (w0 := w) w.heap.size rfl (.tmp 115) (.tmp 128) 26 21 (.int .i32 0) 4 rfl Tryd.underlying26 info21 rfl (by decide) (by omega) u9 x9_3 (wrap32 ((65536 + (rd x4_1 x10_3 - 55296) % 4294967296 * 1024 + (rd x4_1 (ji39) - 56320)) % 4294967296)) [.int .i32 (wrap32 ((65536 + (rd x4_1 x10_3 - 55296) % 4294967296 * 1024 + (rd x4_1 (ji39) - 56320)) % 4294967296))] (fun _ => True) (fun _ => False) rfl rfl ?aP (fun _ hk => hk.elim) ?aF ?aO ?aB ?aS ?aL ?_; (case aP => exact rfl); (case aB => exact (by repeat (first | (with_reducible first | exact HB.out | apply below_alloc | apply pw_below_drewN | apply below_drew1) | exact HB.out))); (case aF => exact (fun _ _ => trivial)); (case aO => exact (by (with_reducible repeat (first | apply Kd.R_alloc | apply Kd.R_drewN | apply Kd.R_drew)); exact HO_9.out)); (case aS => exact (below_size (by repeat (first | (with_reducible first | exact HB.out | apply below_alloc | apply pw_below_drewN | apply below_drew1) | exact HB.out)))); (case aL => have := LMc44.out; omega); intro v110 w45 ho hb hg hat; rw [show wrap32 ((65536 + (rd x4_1 x10_3 - 55296) % 4294967296 * 1024 + (rd x4_1 (ji39) - 56320)) % 4294967296) = wrap32 ((((65536 + (((((rd x4_1 x10_3) - 55296) % 4294967296) * 1024) % 4294967296)) % 4294967296) + (((rd x4_1 (ji39)) - 56320) % 4294967296)) % 4294967296) from congrArg wrap32 (by omega)] at ho; rw [← Ny109.out] at ho; have n0_ := Aside0.mk (Kd.R_over' (by (with_reducible repeat (first | apply Kd.R_alloc | apply Kd.R_drewN | apply Kd.R_drew)); exact HO_4.out) (Kd.R_typed (by (with_reducible repeat (first | apply Kd.R_alloc | apply Kd.R_drewN | apply Kd.R_drew)); exact HO_9.out)) (by decide) hg); have n1_ := Aside0.mk (hb); have n2_ := Aside0.mk (ho); clear HO_4; clear HB; clear HO_9; have HO_4 := n0_; have HB := n1_; have HO111 := n2_; clear n0_ n1_ n2_; clear ho hb hg hat)))
                                              go_roundg kj34
                                              case measure => have := HK1.out; have := HJ22.out; have := HK3.out; have := HJ29.out; have := HJ34.out; omega
                                              case rel => exact ⟨(y109), (wrap64 ((ji39) + 1)), (by first | rfl | (simp; done) | (simp only [← hji39] <;> (first | rfl | simp)) | (simp [*]; done)), (by first | exact H' | (rw [hji39]; exact H') | (simp only [hji39]; exact H')), ⟨by have := HK1.out; have := HJ22.out; have := HK3.out; have := HJ29.out; have := HJ34.out; omega⟩, ⟨by (with_reducible repeat (first | apply Kd.R_alloc | apply Kd.R_drewN | apply Kd.R_drew)); exact HO_4.out⟩, ⟨by (with_reducible repeat (first | apply Kd.R_alloc | apply Kd.R_drewN | apply Kd.R_drew)); exact HO111.out⟩, ⟨by repeat (first | (with_reducible first | exact HB.out | apply below_alloc | apply pw_below_drewN | apply below_drew1) | exact HB.out)⟩⟩
                                            · rw [if_neg c44] at H
                                              exact absurd H (by simp)
                                      · rw [if_neg c41] at H
                                        exact absurd H (by simp)
                                    · rw [if_neg c40] at H
                                      exact absurd H (by simp)
                                · replace c37 := Bool.eq_false_iff.mpr c37
                                  subst c37
                                  have H1 : (if x9_3.length < 35184372088832 then (spec_units9.l2 kj34 x4_1 (x9_3 ++ [wrap32 ((rd x4_1 x10_3))]) (wrap64 (x10_3 + 1))) else (none)) = some (r1, r2) := by rw [if_neg (show ¬ (false = true) by decide)] at H; exact H
                                  clear H
                                  have H := H1
                                  clear H1
                                  by_cases c46 : x9_3.length < 35184372088832
                                  · rw [if_pos c46] at H
                                    have LMc46 := Aside0.mk c46
                                    clear c46
                                    obtain ⟨y112, hy112⟩ : ∃ y_ : List Int, y_ = (x9_3 ++ [wrap32 ((rd x4_1 x10_3))]) := ⟨_, rfl⟩
                                    replace H : (spec_units9.l2 kj34 x4_1 y112 (wrap64 (x10_3 + 1))) = some (r1, r2) := by first | (rw [hy112]; with_reducible exact H) | (have H2_ := (Option.bind_some _ _).symm.trans H; rw [hy112]; with_reducible exact H2_) | (have H2_ := (Option.bind_some _ _).symm.trans H; with_reducible exact H2_) | with_reducible exact H | (rw [hy112]; exact H) | exact H
                                    have Ny112 := Aside0.mk hy112
                                    clear hy112
                                    have H' := Aside0.mk H
                                    clear H
                                    go_wp2_with (first | ((with_reducible refine gate_builtin (b := .append) (xs := #[.tmp 73, .tmp 76]) rfl ?_); (try (refine gate_guard (by rfl) ?_; dsimp only)); at_builtin; refine Kd.R_append (Kd.int .i32) (w0 := w) w.heap.size rfl (.tmp 73) (.tmp 76) 26 21 (.int .i32 0) 4 rfl Tryd.underlying26 info21 rfl (by decide) (by omega) u9 x9_3 (wrap32 ((rd x4_1 x10_3))) [.int .i32 (wrap32 ((rd x4_1 x10_3)))] (fun _ => True) (fun _ => False) rfl rfl ?aP (fun _ hk => hk.elim) ?aF ?aO ?aB ?aS ?aL ?_; (case aP => exact rfl); (case aB => exact (by repeat (first | (with_reducible first | exact HB.out | apply below_alloc | apply pw_below_drewN | apply below_drew1) | exact HB.out))); (case aF => exact (fun _ _ => trivial)); (case aO => exact (by (with_reducible repeat (first | apply Kd.R_alloc | apply Kd.R_drewN | apply Kd.R_drew)); exact HO_9.out)); (case aS => exact (below_size (by repeat (first | (with_reducible first | exact HB.out | apply below_alloc | apply pw_below_drewN | apply below_drew1) | exact HB.out)))); (case aL => have := LMc46.out; omega); intro v113 w47 ho hb hg hat; rw [← Ny112.out] at ho; have n0_ := Aside0.mk (Kd.R_over' (by (with_reducible repeat (first | apply Kd.R_alloc | apply Kd.R_drewN | apply Kd.R_drew)); exact HO_4.out) (Kd.R_typed (by (with_reducible repeat (first | apply Kd.R_alloc | apply Kd.R_drewN | apply Kd.R_drew)); exact HO_9.out)) (by decide) hg); have n1_ := Aside0.mk (hb); have n2_ := Aside0.mk (ho); clear HO_4; clear HB; clear HO_9; have HO_4 := n0_; have HB := n1_; have HO114 := n2_; clear n0_ n1_ n2_; clear ho hb hg hat))
                                    repeat (go_quiet (first | ((with_reducible refine gate_builtin (b := .append) (xs := #[.tmp 73, .tmp 76]) rfl ?_); (try (refine gate_guard (by rfl) ?_; dsimp only)); at_builtin; refine Kd.R_append (Kd.int .i32) (w0 := w) w.heap.size rfl (.tmp 73) (.tmp 76) 26 21 (.int .i32 0) 4 rfl Tryd.underlying26 info21 rfl (by decide) (by omega) u9 x9_3 (wrap32 ((rd x4_1 x10_3))) [.int .i32 (wrap32 ((rd x4_1 x10_3)))] (fun _ => True) (fun _ => False) rfl rfl ?aP (fun _ hk => hk.elim) ?aF ?aO ?aB ?aS ?aL ?_; (case aP => exact rfl); (case aB => exact (by repeat (first | (with_reducible first | exact HB.out | apply below_alloc | apply pw_below_drewN | apply below_drew1) | exact HB.out))); (case aF => exact (fun _ _ => trivial)); (case aO => exact (by (with_reducible repeat (first | apply Kd.R_alloc | apply Kd.R_drewN | apply Kd.R_drew)); exact HO_9.out)); (case aS => exact (below_size (by repeat (first | (with_reducible first | exact HB.out | apply below_alloc | apply pw_below_drewN | apply below_drew1) | exact HB.out)))); (case aL => have := LMc46.out; omega); intro v113 w47 ho hb hg hat; rw [← Ny112.out] at ho; have n0_ := Aside0.mk (Kd.R_over' (by (with_reducible repeat (first | apply Kd.R_alloc | apply Kd.R_drewN | apply Kd.R_drew)); exact HO_4.out) (Kd.R_typed (by (with_reducible repeat (first | apply Kd.R_alloc | apply Kd.R_drewN | apply Kd.R_drew)); exact HO_9.out)) (by decide) hg); have n1_ := Aside0.mk (hb); have n2_ := Aside0.mk (ho); clear HO_4; clear HB; clear HO_9; have HO_4 := n0_; have HB := n1_; have HO114 := n2_; clear n0_ n1_ n2_; clear ho hb hg hat)); try go_wp2_with (first | ((with_reducible refine gate_builtin (b := .append) (xs := #[.tmp 73, .tmp 76]) rfl ?_); (try (refine gate_guard (by rfl) ?_; dsimp only)); at_builtin; refine Kd.R_append (Kd.int .i32) (w0 := w) w.heap.size rfl (.tmp 73) (.tmp 76) 26 21 (.int .i32 0) 4 rfl Tryd.underlying26 info21 rfl (by decide) (by omega) u9 x9_3 (wrap32 ((rd x4_1 x10_3))) [.int .i32 (wrap32 ((rd x4_1 x10_3)))] (fun _ => True) (fun _ => False) rfl rfl ?aP (fun _ hk => hk.elim) ?aF ?aO ?aB ?aS ?aL ?_; (case aP => exact rfl); (case aB => exact (by repeat (first | (with_reducible first | exact HB.out | apply below_alloc | apply pw_below_drewN | apply below_drew1) | exact HB.out))); (case aF => exact (fun _ _ => trivial)); (case aO => exact (by (with_reducible repeat (first | apply Kd.R_alloc | apply Kd.R_drewN | apply Kd.R_drew)); exact HO_9.out)); (case aS => exact (below_size (by repeat (first | (with_reducible first | exact HB.out | apply below_alloc | apply pw_below_drewN | apply below_drew1) | exact HB.out)))); (case aL => have := LMc46.out; omega); intro v113 w47 ho hb hg hat; rw [← Ny112.out] at ho; have n0_ := Aside0.mk (Kd.R_over' (by (with_reducible repeat (first | apply Kd.R_alloc | apply Kd.R_drewN | apply Kd.R_drew)); exact HO_4.out) (Kd.R_typed (by (with_reducible repeat (first | apply Kd.R_alloc | apply Kd.R_drewN | apply Kd.R_drew)); exact HO_9.out)) (by decide) hg); have n1_ := Aside0.mk (hb); have n2_ := Aside0.mk (ho); clear HO_4; clear HB; clear HO_9; have HO_4 := n0_; have HB := n1_; have HO114 := n2_; clear n0_ n1_ n2_; clear ho hb hg hat)))
                                    go_roundg kj34
                                    case measure => have := HK1.out; have := HJ22.out; have := HK3.out; have := HJ29.out; have := HJ34.out; omega
                                    case rel => exact ⟨(y112), (wrap64 (x10_3 + 1)), (by first | rfl | (simp; done) | (simp [*]; done)), H', ⟨by have := HK1.out; have := HJ22.out; have := HK3.out; have := HJ29.out; have := HJ34.out; omega⟩, ⟨by (with_reducible repeat (first | apply Kd.R_alloc | apply Kd.R_drewN | apply Kd.R_drew)); exact HO_4.out⟩, ⟨by (with_reducible repeat (first | apply Kd.R_alloc | apply Kd.R_drewN | apply Kd.R_drew)); exact HO114.out⟩, ⟨by repeat (first | (with_reducible first | exact HB.out | apply below_alloc | apply pw_below_drewN | apply below_drew1) | exact HB.out)⟩⟩
                                  · rw [if_neg c46] at H
                                    exact absurd H (by simp)
                    · rw [if_neg c28] at H
                      exact absurd H (by simp)
                  · rw [if_neg c27] at H
                    have c27b0 : decide (x10_3 < (x4_1.length : Int)) = false := decide_eq_false c27
                    clear c27
                    simp only [Option.some.injEq, Prod.mk.injEq] at H
                    obtain ⟨rfl, rfl⟩ := H
                    obtain ⟨Ao48, co48, eo48⟩ := Kd.R_slice HO_4.out
                    subst eo48
                    go_wp2
                    repeat (go_quiet (fail); try go_wp2)
                    go_ret2
                    exact ⟨_, by first | rfl | (simp [errW_none, errW_some] <;> rfl) | (simp [*, errW_none, errW_some] <;> rfl), by (with_reducible repeat (first | apply Kd.R_alloc | apply Kd.R_drewN | apply Kd.R_drew)); exact HO_9.out, by repeat (first | (with_reducible first | exact HB.out | apply below_alloc | apply pw_below_drewN | apply below_drew1) | exact HB.out)⟩

end Go.Proofs.YtbjhmmiijebehaaDoor.PFromUtf7Of
