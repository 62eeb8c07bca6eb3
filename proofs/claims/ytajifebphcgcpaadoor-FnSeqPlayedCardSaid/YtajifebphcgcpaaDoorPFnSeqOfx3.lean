-- Printed for this claim by a copy of the kit's print that takes hand-proved callees (wip/patch_print.py).
import Derived.Test.YtajifebphcgcpaaDoorPFnSeqOfx0
namespace Go.Proofs.YtajifebphcgcpaaDoor.PFnSeqOf
open Go.RowKit Go.Proofs.YtajifebphcgcpaaDoorW.PrintWords Go.Proofs.YtajifebphcgcpaaDoorW.PrintLast Go.Proofs.YtajifebphcgcpaaDoorW.PrintMore
attribute [local go_sem] max2_int min2_int max_two min_two max_three min_three max_four min_four   -- for this text's walks alone
set_option linter.unusedVariables false
set_option linter.unusedSimpArgs false

/-! ### spec_Set9: function 8 -/
mutual
def spec_Set9.l0 : Nat → List (S24) → List (S24) → Bool → Int → Int → Int → Option ((List (S24)))
  | 0, _, _, _, _, _, _ => none
  | k + 1, x0, x3, x4, x5, x15, x16 => if x16 < x15 then (if 0 ≤ x16 then (if x16 < (x0.length : Int) then (if ((rd_T24 x0 x16).f0) = 0 then (spec_Set9.l0 k x0 x3 true x5 x15 (wrap64 (x16 + 1))) else (if ((rd_T24 x0 x16).f1) = 0 then (if x5 = 0 then (spec_Set9.l0 k x0 x3 x4 ((rd_T24 x0 x16).f0) x15 (wrap64 (x16 + 1))) else (if ((rd_T24 x0 x16).f0) < x5 then (spec_Set9.l0 k x0 x3 x4 ((rd_T24 x0 x16).f0) x15 (wrap64 (x16 + 1))) else (spec_Set9.l0 k x0 x3 x4 x5 x15 (wrap64 (x16 + 1))))) else (if x3.length < 17592186044416 then (spec_Set9.l0 k x0 (x3 ++ [(⟨(rd_T24 x0 x16).f0, (rd_T24 x0 x16).f1⟩ : S24)]) x4 x5 x15 (wrap64 (x16 + 1))) else (none)))) else (none)) else (none)) else (spec_Set9.l1 k x3 x4 x5 (x3.length : Int) 0)
def spec_Set9.l1 : Nat → List (S24) → Bool → Int → Int → Int → Option ((List (S24)))
  | 0, _, _, _, _, _ => none
  | k + 1, x3, x4, x5, x47, x48 => if x48 < x47 then (spec_Set9.l2 k x3 x4 x5 x48 x47 x48) else (spec_Set9.l3 k x3 x4 x5 ([] : List (S24)) (x3.length : Int) 0)
def spec_Set9.l2 : Nat → List (S24) → Bool → Int → Int → Int → Int → Option ((List (S24)))
  | 0, _, _, _, _, _, _ => none
  | k + 1, x3, x4, x5, x9, x47, x48 => if x9 > 0 then (if 0 ≤ x9 then (if x9 < (x3.length : Int) then (if 0 ≤ (wrap64 (x9 - 1)) then (if (wrap64 (x9 - 1)) < (x3.length : Int) then (if ((rd_T24 x3 x9).f0) < ((rd_T24 x3 (wrap64 (x9 - 1))).f0) then (spec_Set9.l2 k ((x3.set (x9 : Int).toNat (⟨(rd_T24 x3 (wrap64 (x9 - 1))).f0, (rd_T24 x3 (wrap64 (x9 - 1))).f1⟩ : S24)).set ((wrap64 (x9 - 1)) : Int).toNat (⟨(rd_T24 x3 x9).f0, (rd_T24 x3 x9).f1⟩ : S24)) x4 x5 (wrap64 (x9 - 1)) x47 x48) else (spec_Set9.l1 k x3 x4 x5 x47 (wrap64 (x48 + 1)))) else (none)) else (none)) else (none)) else (none)) else (spec_Set9.l1 k x3 x4 x5 x47 (wrap64 (x48 + 1)))
def spec_Set9.l3 : Nat → List (S24) → Bool → Int → List (S24) → Int → Int → Option ((List (S24)))
  | 0, _, _, _, _, _, _ => none
  | k + 1, x3, x4, x5, x10, x88, x89 => if x89 < x88 then (if (x10.length : Int) > 0 then (if 0 ≤ x89 then (if x89 < (x3.length : Int) then (if 0 ≤ (wrap64 ((x10.length : Int) - 1)) then (if (wrap64 ((x10.length : Int) - 1)) < (x10.length : Int) then (if (IntKind.u64.wrap ((rd_T24 x3 x89).f0)) ≤ (IntKind.u64.wrap ((IntKind.u64.wrap ((rd_T24 x10 (wrap64 ((x10.length : Int) - 1))).f1)) + 1)) then (spec_Set9.l3 k x3 x4 x5 (x10.set ((wrap64 ((x10.length : Int) - 1)) : Int).toNat (⟨(rd_T24 x10 (wrap64 ((x10.length : Int) - 1))).f0, mx ((rd_T24 x10 (wrap64 ((x10.length : Int) - 1))).f1) ((rd_T24 x3 x89).f1)⟩ : S24)) x88 (wrap64 (x89 + 1))) else (if x10.length < 17592186044416 then (spec_Set9.l3 k x3 x4 x5 (x10 ++ [(⟨(rd_T24 x3 x89).f0, (rd_T24 x3 x89).f1⟩ : S24)]) x88 (wrap64 (x89 + 1))) else (none))) else (none)) else (none)) else (none)) else (none)) else (if 0 ≤ x89 then (if x89 < (x3.length : Int) then (if x10.length < 17592186044416 then (spec_Set9.l3 k x3 x4 x5 (x10 ++ [(⟨(rd_T24 x3 x89).f0, (rd_T24 x3 x89).f1⟩ : S24)]) x88 (wrap64 (x89 + 1))) else (none)) else (none)) else (none))) else (if x5 > 0 then (spec_Set9.l4 k x5 x10 (x10.length : Int)) else (if x4 = true then (if x10.length < 17592186044416 then (some (x10 ++ [(⟨0, 0⟩ : S24)])) else (none)) else (some x10)))
def spec_Set9.l4 : Nat → Int → List (S24) → Int → Option ((List (S24)))
  | 0, _, _, _ => none
  | k + 1, x5, x10, x13 => if x13 > 0 then (if 0 ≤ (wrap64 (x13 - 1)) then (if (wrap64 (x13 - 1)) < (x10.length : Int) then (if (IntKind.u64.wrap ((IntKind.u64.wrap ((rd_T24 x10 (wrap64 (x13 - 1))).f1)) + 1)) ≥ (IntKind.u64.wrap (x5)) then (if (wrap64 (x13 - 1)) ≤ (x10.length : Int) then ((some (x10.take ((wrap64 (x13 - 1)) : Int).toNat : List (S24))).bind fun y127 => (spec_Set9.l4 k (mn x5 ((rd_T24 x10 (wrap64 (x13 - 1))).f0)) y127 (y127.length : Int))) else (none)) else (if x10.length < 17592186044416 then (some (x10 ++ [(⟨x5, 0⟩ : S24)])) else (none))) else (none)) else (none)) else (if x10.length < 17592186044416 then (some (x10 ++ [(⟨x5, 0⟩ : S24)])) else (none))
end
def spec_Set9.f (k : Nat) (l0 : List (S24)) : Option ((List (S24))) := spec_Set9.l0 k l0 ([] : List (S24)) false 0 (l0.length : Int) 0
theorem spec_Set9.mono_l : ∀ k, (∀ y0 y1 y2 y3 y4 y5, LeO (spec_Set9.l0 k y0 y1 y2 y3 y4 y5) (spec_Set9.l0 (k + 1) y0 y1 y2 y3 y4 y5)) ∧ (∀ y0 y1 y2 y3 y4, LeO (spec_Set9.l1 k y0 y1 y2 y3 y4) (spec_Set9.l1 (k + 1) y0 y1 y2 y3 y4)) ∧ (∀ y0 y1 y2 y3 y4 y5, LeO (spec_Set9.l2 k y0 y1 y2 y3 y4 y5) (spec_Set9.l2 (k + 1) y0 y1 y2 y3 y4 y5)) ∧ (∀ y0 y1 y2 y3 y4 y5, LeO (spec_Set9.l3 k y0 y1 y2 y3 y4 y5) (spec_Set9.l3 (k + 1) y0 y1 y2 y3 y4 y5)) ∧ (∀ y0 y1 y2, LeO (spec_Set9.l4 k y0 y1 y2) (spec_Set9.l4 (k + 1) y0 y1 y2))
  | 0 => ⟨fun _ _ _ _ _ _ r h => by simp [spec_Set9.l0] at h, fun _ _ _ _ _ r h => by simp [spec_Set9.l1] at h, fun _ _ _ _ _ _ r h => by simp [spec_Set9.l2] at h, fun _ _ _ _ _ _ r h => by simp [spec_Set9.l3] at h, fun _ _ _ r h => by simp [spec_Set9.l4] at h⟩
  | k + 1 => by
    obtain ⟨ih0, ih1, ih2, ih3, ih4⟩ := spec_Set9.mono_l k
    refine ⟨?_, ?_, ?_, ?_, ?_⟩
    · intro y0 y1 y2 y3 y4 y5
      unfold spec_Set9.l0
      repeat' first
      | (with_reducible exact ih0 _ _ _ _ _ _)
      | (with_reducible exact ih1 _ _ _ _ _)
      | (with_reducible exact ih2 _ _ _ _ _ _)
      | (with_reducible exact ih3 _ _ _ _ _ _)
      | (with_reducible exact ih4 _ _ _)
      | (with_reducible exact LeO.refl _)
      | (with_reducible exact LeO.none _)
      | (with_reducible refine LeO.ite ?_ ?_)
      | (with_reducible refine LeO.bind ?_ (fun _ => ?_))
      | exact ih0 _ _ _ _ _ _
      | exact ih1 _ _ _ _ _
      | exact ih2 _ _ _ _ _ _
      | exact ih3 _ _ _ _ _ _
      | exact ih4 _ _ _
      | exact LeO.none _
      | refine LeO.ite ?_ ?_
      | refine LeO.bind ?_ (fun _ => ?_)
    · intro y0 y1 y2 y3 y4
      unfold spec_Set9.l1
      repeat' first
      | (with_reducible exact ih0 _ _ _ _ _ _)
      | (with_reducible exact ih1 _ _ _ _ _)
      | (with_reducible exact ih2 _ _ _ _ _ _)
      | (with_reducible exact ih3 _ _ _ _ _ _)
      | (with_reducible exact ih4 _ _ _)
      | (with_reducible exact LeO.refl _)
      | (with_reducible exact LeO.none _)
      | (with_reducible refine LeO.ite ?_ ?_)
      | (with_reducible refine LeO.bind ?_ (fun _ => ?_))
      | exact ih0 _ _ _ _ _ _
      | exact ih1 _ _ _ _ _
      | exact ih2 _ _ _ _ _ _
      | exact ih3 _ _ _ _ _ _
      | exact ih4 _ _ _
      | exact LeO.none _
      | refine LeO.ite ?_ ?_
      | refine LeO.bind ?_ (fun _ => ?_)
    · intro y0 y1 y2 y3 y4 y5
      unfold spec_Set9.l2
      repeat' first
      | (with_reducible exact ih0 _ _ _ _ _ _)
      | (with_reducible exact ih1 _ _ _ _ _)
      | (with_reducible exact ih2 _ _ _ _ _ _)
      | (with_reducible exact ih3 _ _ _ _ _ _)
      | (with_reducible exact ih4 _ _ _)
      | (with_reducible exact LeO.refl _)
      | (with_reducible exact LeO.none _)
      | (with_reducible refine LeO.ite ?_ ?_)
      | (with_reducible refine LeO.bind ?_ (fun _ => ?_))
      | exact ih0 _ _ _ _ _ _
      | exact ih1 _ _ _ _ _
      | exact ih2 _ _ _ _ _ _
      | exact ih3 _ _ _ _ _ _
      | exact ih4 _ _ _
      | exact LeO.none _
      | refine LeO.ite ?_ ?_
      | refine LeO.bind ?_ (fun _ => ?_)
    · intro y0 y1 y2 y3 y4 y5
      unfold spec_Set9.l3
      repeat' first
      | (with_reducible exact ih0 _ _ _ _ _ _)
      | (with_reducible exact ih1 _ _ _ _ _)
      | (with_reducible exact ih2 _ _ _ _ _ _)
      | (with_reducible exact ih3 _ _ _ _ _ _)
      | (with_reducible exact ih4 _ _ _)
      | (with_reducible exact LeO.refl _)
      | (with_reducible exact LeO.none _)
      | (with_reducible refine LeO.ite ?_ ?_)
      | (with_reducible refine LeO.bind ?_ (fun _ => ?_))
      | exact ih0 _ _ _ _ _ _
      | exact ih1 _ _ _ _ _
      | exact ih2 _ _ _ _ _ _
      | exact ih3 _ _ _ _ _ _
      | exact ih4 _ _ _
      | exact LeO.none _
      | refine LeO.ite ?_ ?_
      | refine LeO.bind ?_ (fun _ => ?_)
    · intro y0 y1 y2
      unfold spec_Set9.l4
      repeat' first
      | (with_reducible exact ih0 _ _ _ _ _ _)
      | (with_reducible exact ih1 _ _ _ _ _)
      | (with_reducible exact ih2 _ _ _ _ _ _)
      | (with_reducible exact ih3 _ _ _ _ _ _)
      | (with_reducible exact ih4 _ _ _)
      | (with_reducible exact LeO.refl _)
      | (with_reducible exact LeO.none _)
      | (with_reducible refine LeO.ite ?_ ?_)
      | (with_reducible refine LeO.bind ?_ (fun _ => ?_))
      | exact ih0 _ _ _ _ _ _
      | exact ih1 _ _ _ _ _
      | exact ih2 _ _ _ _ _ _
      | exact ih3 _ _ _ _ _ _
      | exact ih4 _ _ _
      | exact LeO.none _
      | refine LeO.ite ?_ ?_
      | refine LeO.bind ?_ (fun _ => ?_)
theorem spec_Set9.mono : ∀ a0 k, LeO (spec_Set9.f k a0) (spec_Set9.f (k + 1) a0) := by
  intro a0 k
  obtain ⟨ih0, ih1, ih2, ih3, ih4⟩ := spec_Set9.mono_l k
  unfold spec_Set9.f
  repeat' first
      | (with_reducible exact ih0 _ _ _ _ _ _)
      | (with_reducible exact ih1 _ _ _ _ _)
      | (with_reducible exact ih2 _ _ _ _ _ _)
      | (with_reducible exact ih3 _ _ _ _ _ _)
      | (with_reducible exact ih4 _ _ _)
      | (with_reducible exact LeO.refl _)
      | (with_reducible exact LeO.none _)
      | (with_reducible refine LeO.ite ?_ ?_)
      | (with_reducible refine LeO.bind ?_ (fun _ => ?_))
      | exact ih0 _ _ _ _ _ _
      | exact ih1 _ _ _ _ _
      | exact ih2 _ _ _ _ _ _
      | exact ih3 _ _ _ _ _ _
      | exact ih4 _ _ _
      | exact LeO.none _
      | refine LeO.ite ?_ ?_
      | refine LeO.bind ?_ (fun _ => ?_)
def spec_Set9.T18 : Bool × List (List Nat × List Nat) := (true, [([], []), ([0], [0]), ([1], [1]), ([2], [2]), ([2], [2]), ([3, 4, 2], [2, 3, 4]), ([5, 2], [2, 5]), ([6, 2], [2, 6]), ([2], [2]), ([2], [2]), ([9, 2], [2, 9]), ([8, 10, 2], [2, 8, 10]), ([11, 2], [2, 11]), ([12, 2], [2, 12]), ([7, 13, 2], [2, 7, 13]), ([2, 14], [2, 14])])
def spec_Set9.B18 : List Nat := [0, 1, 3, 7, 7, 31, 63, 127, 7, 7, 519, 1799, 3847, 7943, 16383, 32767]
theorem spec_Set9.tab18 : rtab .any (opsOf Tryd.f8 18) = spec_Set9.T18 := by kernel_rfl
theorem spec_Set9.bits18 : waitsOk spec_Set9.T18.2 spec_Set9.B18 = true := by kernel_rfl
def spec_Set9.T20 : Bool × List (List Nat × List Nat) := (true, [([], []), ([], []), ([], []), ([], []), ([3], [3]), ([], []), ([], []), ([6], [6]), ([5, 7], [5, 7]), ([8], [8]), ([], []), ([], []), ([10, 11], [10, 11]), ([12], [12]), ([0, 1, 0, 1, 5, 6, 7, 8, 9, 13], [0, 1]), ([14, 9, 0, 1, 5, 6, 7, 8, 9, 13], [9, 14]), ([2, 4, 0, 1, 2, 3, 4, 5, 6, 7, 8, 9, 10, 11, 12, 13, 14, 15], [2, 4]), ([16, 13, 15, 0, 1, 2, 3, 4, 5, 6, 7, 8, 9, 10, 11, 12, 13, 14, 15], [13, 16])])
def spec_Set9.B20 : List Nat := [0, 0, 0, 0, 8, 0, 0, 64, 224, 480, 0, 0, 3072, 7168, 16355, 32739, 65535, 131071]
theorem spec_Set9.tab20 : rtab .any (opsOf Tryd.f8 20) = spec_Set9.T20 := by kernel_rfl
theorem spec_Set9.bits20 : waitsOk spec_Set9.T20.2 spec_Set9.B20 = true := by kernel_rfl
def spec_Set9.T27 : Bool × List (List Nat × List Nat) := (true, [([], []), ([0], [0]), ([1], [1]), ([2], [2]), ([2], [2]), ([3, 4, 2], [2, 3, 4]), ([5, 2], [2, 5]), ([6, 2], [2, 6]), ([7, 2], [2, 7]), ([2], [2]), ([2], [2]), ([10, 2], [2, 10]), ([9, 11, 2], [2, 9, 11]), ([12, 2], [2, 12]), ([13, 2], [2, 13]), ([14, 2], [2, 14]), ([15, 2], [2, 15]), ([8, 16, 2], [2, 8, 16]), ([2, 17], [2, 17])])
def spec_Set9.B27 : List Nat := [0, 1, 3, 7, 7, 31, 63, 127, 255, 7, 7, 1031, 3591, 7687, 15879, 32263, 65031, 131071, 262143]
theorem spec_Set9.tab27 : rtab .any (opsOf Tryd.f8 27) = spec_Set9.T27 := by kernel_rfl
theorem spec_Set9.bits27 : waitsOk spec_Set9.T27.2 spec_Set9.B27 = true := by kernel_rfl
def spec_Set9.T28 : Bool × List (List Nat × List Nat) := (true, [([], []), ([], []), ([1], [1]), ([], []), ([], []), ([4], [4]), ([3, 5], [3, 5]), ([6], [6]), ([7], [7]), ([], []), ([], []), ([9, 10], [9, 10]), ([11], [11]), ([12], [12]), ([8, 13], [8, 13]), ([0, 2, 0, 1, 2, 3, 4, 5, 6, 7, 8, 9, 10, 11, 12, 13, 14], [0, 2]), ([15, 0, 1, 2, 3, 4, 5, 6, 7, 8, 9, 10, 11, 12, 13, 14], [15]), ([16, 14, 0, 1, 2, 3, 4, 5, 6, 7, 8, 9, 10, 11, 12, 13, 14], [14, 16])])
def spec_Set9.B28 : List Nat := [0, 0, 2, 0, 0, 16, 56, 120, 248, 0, 0, 1536, 3584, 7680, 16376, 32767, 65535, 131071]
theorem spec_Set9.tab28 : rtab .any (opsOf Tryd.f8 28) = spec_Set9.T28 := by kernel_rfl
theorem spec_Set9.bits28 : waitsOk spec_Set9.T28.2 spec_Set9.B28 = true := by kernel_rfl
set_option maxHeartbeats 8000000 in
set_option maxRecDepth 100000 in
theorem spec_Set9.calls (k : Nat) (A0 : Option Addr) (c0 : Nat) (l0 : List (S24)) (r : List (S24)) (w : World) (hr0 : Kd.C k24 w A0 l0.length l0) (hc0 : l0.length ≤ c0) (h : spec_Set9.f k l0 = some r) :
    Calls Tryd.prog 8 #[.slice A0 l0.length c0] w fun e w' => ∃ v0_ : Value, e = .returned (v0_) ∧ Kd.R k24 24 w' w.heap.size (fun _ => True) v0_ r ∧ Below w.heap.size w w' := by
  have hu24 := Tryd.underlying24
  have HR0 := Aside0.mk hr0
  have HC0 := Aside0.mk hc0
  clear hr0 hc0
  have HB := Aside0.mk (Below.refl w.heap.size w)
  have H : (spec_Set9.l0 k l0 ([] : List (S24)) false 0 (l0.length : Int) 0) = some r := h
  clear h
  have H' := Aside0.mk H
  clear H
  go_enter Tryd.func8, Tryd.ntmps8
  go_wp2
  go_loopg [3, 4, 5, 16] k (fun kq v3 v4 v5 v16 w' => ∃ (x3_1 : List (S24)) (x4_1 : Bool) (x5_1 : Int) (x16_1 : Int), v4 = .bool x4_1 ∧ v5 = .int .u32 x5_1 ∧ v16 = .int .i64 x16_1 ∧ Aside0 (spec_Set9.l0 kq l0 x3_1 x4_1 x5_1 (l0.length : Int) x16_1 = some r) ∧ Aside0 (kq ≤ k) ∧ Aside0 (Kd.R k24 24 w' w.heap.size (fun _ => True) v3 x3_1) ∧ Aside0 (Below w.heap.size w w'))
  case atStart => exact ⟨(([] : List (S24))), (false), (0), (0), (by first | rfl | (simp; done) | (simp [*]; done)), (by first | rfl | (simp; done) | (simp [*]; done)), (by first | rfl | (simp; done) | (simp [*]; done)), H', ⟨Nat.le_refl _⟩, ⟨by first | exact Kd.R_nil _ _ _ _ _ | exact Kd.N_nil _ _ _ _ _ | exact Kd.V_nil _ _ _ _ _ | exact Kd.Q_nil _ _ _ _ _ | exact Kd.S_nil _ _ _ _ _⟩, ⟨by repeat (first | (with_reducible first | exact HB.out | apply below_alloc | apply pw_below_drewN | apply below_drew1) | exact HB.out)⟩⟩
  case round =>
    clear H'
    obtain ⟨x3_1, x4_1, x5_1, x16_1, rfl, rfl, rfl, HA, HK1, HO_3, HB⟩ := hrel
    cases gk with
    | zero => exact absurd HA.out (by simp [spec_Set9.l0])
    | succ k1 =>
      have H := HA.out
      clear HA
      simp only [spec_Set9.l0] at H
      by_cases c2 : x16_1 < (l0.length : Int)
      · rw [if_pos c2] at H
        have c2b0 : decide (x16_1 < (l0.length : Int)) = true := decide_eq_true c2
        clear c2
        by_cases c3 : 0 ≤ x16_1
        · rw [if_pos c3] at H
          have c3b0 : decide (0 ≤ x16_1) = true := decide_eq_true c3
          clear c3
          by_cases c4 : x16_1 < (l0.length : Int)
          · rw [if_pos c4] at H
            have c4b0 : decide (x16_1 < (l0.length : Int)) = true := decide_eq_true c4
            clear c4
            by_cases c5 : ((rd_T24 l0 x16_1).f0) = 0
            · rw [if_pos c5] at H
              have c5b0 : (((rd_T24 l0 x16_1).f0) == 0) = true := beq_iff_eq.mpr c5
              have c5b1 : (((rd_T24 l0 x16_1).f0) != 0) = false := bne_eq_false_iff_eq.mpr c5
              clear c5
              have H' := Aside0.mk H
              clear H
              have p101 : 0 ≤ (x16_1 : Int) := of_decide_eq_true (by first | (with_reducible assumption) | assumption)
              have q101 : x16_1 < (l0.length : Int) := of_decide_eq_true (by first | (with_reducible assumption) | assumption)
              obtain ⟨ad101, e101, hx101_0, hx101_1⟩ := at_T24 HR0.out x16_1 p101 q101
              cases e101
              replace hx101_0 := (HB.out.cell (World.block_lt_of_cell? w _ hx101_0)).trans hx101_0
              replace hx101_1 := (HB.out.cell (World.block_lt_of_cell? w _ hx101_1)).trans hx101_1
              replace p101 := eq_true p101
              replace q101 := eq_true q101
              go_wp2_with (first | ((with_reducible refine gate_dst (N := 7) rfl ?_); refine box_event ?hg (N := 7) ?hd (cs := #[.int .u32 0, .int .u32 0]) (t := 24) ?hr ?_; (case hd => rfl); (case hg => rfl); (case hr => first | (go_simp; done) | (go_simp; rfl)); intro gb102 hg w6 hbox hb; have n0_ := Aside0.mk (Kd.R_below (Kd.R_elderB (by (with_reducible repeat (first | apply Kd.R_alloc | apply Kd.R_drewN | apply Kd.R_drew)); exact HO_3.out) gb102 (Nat.le_of_eq hg.symm)) hb); have n1_ := Aside0.mk (below_step (by repeat (first | (with_reducible first | exact HB.out | apply below_alloc | apply pw_below_drewN | apply below_drew1) | exact HB.out)) hb); have n2_ := Aside0.mk (hbox); have n3_ := Aside0.mk ((by rw [hg]; exact (below_size (by repeat (first | (with_reducible first | exact HB.out | apply below_alloc | apply pw_below_drewN | apply below_drew1) | exact HB.out))) : w.heap.size ≤ gb102)); have n4_ := Aside0.mk ((by rw [hg]; exact (below_size (by repeat (first | (with_reducible first | exact HB.out | apply below_alloc | apply pw_below_drewN | apply below_drew1) | exact HB.out))) : w.heap.size ≤ gb102)); clear HO_3; clear HB; have HO_3 := n0_; have HB := n1_; have BK102 := n2_; have GW102 := n3_; have GE102 := n4_; clear n0_ n1_ n2_ n3_ n4_; clear hb hbox hg; have hcz7_0 : w6.cell? ⟨gb102, 0, none⟩ = some (.int .u32 0) := (blk_cell BK102.out 0).trans rfl; have hcz7_1 : w6.cell? ⟨gb102, 1, none⟩ = some (.int .u32 0) := (blk_cell BK102.out 1).trans rfl; have hfz7_0 := blk_frozen BK102.out 0; have hfz7_1 := blk_frozen BK102.out 1))
              go_roundg k1
              case measure => have := HK1.out; omega
              case rel => exact ⟨(x3_1), (true), (x5_1), (wrap64 (x16_1 + 1)), (by first | rfl | (simp; done) | (simp [*]; done)), (by first | rfl | (simp; done) | (simp [*]; done)), (by first | rfl | (simp; done) | (simp [*]; done)), H', ⟨by have := HK1.out; omega⟩, ⟨by (with_reducible repeat (first | apply Kd.R_alloc | apply Kd.R_drewN | apply Kd.R_drew)); exact Kd.R_mono (Kd.R_far (p := ⟨gb102, 1, none⟩) (Kd.R_far (p := ⟨gb102, 0, none⟩) (Kd.R_mono HO_3.out (fun k_ hk => (⟨hk, hk.2⟩ : _ ∧ k_ ≠ gb102))) (fun _ hk => hk.2) (.int .u32 ((rd_T24 l0 x16_1).f0))) (fun _ hk => hk.2) (.int .u32 ((rd_T24 l0 x16_1).f1))) (fun _ hk => trivial)⟩, ⟨by repeat (first | (with_reducible first | exact HB.out | apply below_alloc | apply pw_below_drewN | apply below_drew1 | refine below_set ?_ GE102.out) | exact HB.out)⟩⟩
            · rw [if_neg c5] at H
              have c5b0 : (((rd_T24 l0 x16_1).f0) == 0) = false := beq_eq_false_iff_ne.mpr c5
              have c5b1 : (((rd_T24 l0 x16_1).f0) != 0) = true := bne_iff_ne.mpr c5
              by_cases c8 : ((rd_T24 l0 x16_1).f1) = 0
              · rw [if_pos c8] at H
                have c8b0 : (((rd_T24 l0 x16_1).f1) == 0) = true := beq_iff_eq.mpr c8
                have c8b1 : (((rd_T24 l0 x16_1).f1) != 0) = false := bne_eq_false_iff_eq.mpr c8
                clear c8
                by_cases c9 : x5_1 = 0
                · rw [if_pos c9] at H
                  have c9b0 : (x5_1 == 0) = true := beq_iff_eq.mpr c9
                  have c9b1 : (x5_1 != 0) = false := bne_eq_false_iff_eq.mpr c9
                  clear c9
                  have H' := Aside0.mk H
                  clear H
                  have p101 : 0 ≤ (x16_1 : Int) := of_decide_eq_true (by first | (with_reducible assumption) | assumption)
                  have q101 : x16_1 < (l0.length : Int) := of_decide_eq_true (by first | (with_reducible assumption) | assumption)
                  obtain ⟨ad101, e101, hx101_0, hx101_1⟩ := at_T24 HR0.out x16_1 p101 q101
                  cases e101
                  replace hx101_0 := (HB.out.cell (World.block_lt_of_cell? w _ hx101_0)).trans hx101_0
                  replace hx101_1 := (HB.out.cell (World.block_lt_of_cell? w _ hx101_1)).trans hx101_1
                  replace p101 := eq_true p101
                  replace q101 := eq_true q101
                  go_wp2_with (first | ((with_reducible refine gate_dst (N := 7) rfl ?_); refine box_event ?hg (N := 7) ?hd (cs := #[.int .u32 0, .int .u32 0]) (t := 24) ?hr ?_; (case hd => rfl); (case hg => rfl); (case hr => first | (go_simp; done) | (go_simp; rfl)); intro gb102 hg w10 hbox hb; have n0_ := Aside0.mk (Kd.R_below (Kd.R_elderB (by (with_reducible repeat (first | apply Kd.R_alloc | apply Kd.R_drewN | apply Kd.R_drew)); exact HO_3.out) gb102 (Nat.le_of_eq hg.symm)) hb); have n1_ := Aside0.mk (below_step (by repeat (first | (with_reducible first | exact HB.out | apply below_alloc | apply pw_below_drewN | apply below_drew1) | exact HB.out)) hb); have n2_ := Aside0.mk (hbox); have n3_ := Aside0.mk ((by rw [hg]; exact (below_size (by repeat (first | (with_reducible first | exact HB.out | apply below_alloc | apply pw_below_drewN | apply below_drew1) | exact HB.out))) : w.heap.size ≤ gb102)); have n4_ := Aside0.mk ((by rw [hg]; exact (below_size (by repeat (first | (with_reducible first | exact HB.out | apply below_alloc | apply pw_below_drewN | apply below_drew1) | exact HB.out))) : w.heap.size ≤ gb102)); clear HO_3; clear HB; have HO_3 := n0_; have HB := n1_; have BK102 := n2_; have GW102 := n3_; have GE102 := n4_; clear n0_ n1_ n2_ n3_ n4_; clear hb hbox hg; have hcz11_0 : w10.cell? ⟨gb102, 0, none⟩ = some (.int .u32 0) := (blk_cell BK102.out 0).trans rfl; have hcz11_1 : w10.cell? ⟨gb102, 1, none⟩ = some (.int .u32 0) := (blk_cell BK102.out 1).trans rfl; have hfz11_0 := blk_frozen BK102.out 0; have hfz11_1 := blk_frozen BK102.out 1))
                  go_roundg k1
                  case measure => have := HK1.out; omega
                  case rel => exact ⟨(x3_1), (x4_1), ((rd_T24 l0 x16_1).f0), (wrap64 (x16_1 + 1)), (by first | rfl | (simp; done) | (simp [*]; done)), (by first | rfl | (simp; done) | (simp [*]; done)), (by first | rfl | (simp; done) | (simp [*]; done)), H', ⟨by have := HK1.out; omega⟩, ⟨by (with_reducible repeat (first | apply Kd.R_alloc | apply Kd.R_drewN | apply Kd.R_drew)); exact Kd.R_mono (Kd.R_far (p := ⟨gb102, 1, none⟩) (Kd.R_far (p := ⟨gb102, 0, none⟩) (Kd.R_mono HO_3.out (fun k_ hk => (⟨hk, hk.2⟩ : _ ∧ k_ ≠ gb102))) (fun _ hk => hk.2) (.int .u32 ((rd_T24 l0 x16_1).f0))) (fun _ hk => hk.2) (.int .u32 ((rd_T24 l0 x16_1).f1))) (fun _ hk => trivial)⟩, ⟨by repeat (first | (with_reducible first | exact HB.out | apply below_alloc | apply pw_below_drewN | apply below_drew1 | refine below_set ?_ GE102.out) | exact HB.out)⟩⟩
                · rw [if_neg c9] at H
                  have c9b0 : (x5_1 == 0) = false := beq_eq_false_iff_ne.mpr c9
                  have c9b1 : (x5_1 != 0) = true := bne_iff_ne.mpr c9
                  by_cases c12 : ((rd_T24 l0 x16_1).f0) < x5_1
                  · rw [if_pos c12] at H
                    have c12b0 : decide (((rd_T24 l0 x16_1).f0) < x5_1) = true := decide_eq_true c12
                    clear c12
                    have H' := Aside0.mk H
                    clear H
                    have p101 : 0 ≤ (x16_1 : Int) := of_decide_eq_true (by first | (with_reducible assumption) | assumption)
                    have q101 : x16_1 < (l0.length : Int) := of_decide_eq_true (by first | (with_reducible assumption) | assumption)
                    obtain ⟨ad101, e101, hx101_0, hx101_1⟩ := at_T24 HR0.out x16_1 p101 q101
                    cases e101
                    replace hx101_0 := (HB.out.cell (World.block_lt_of_cell? w _ hx101_0)).trans hx101_0
                    replace hx101_1 := (HB.out.cell (World.block_lt_of_cell? w _ hx101_1)).trans hx101_1
                    replace p101 := eq_true p101
                    replace q101 := eq_true q101
                    go_wp2_with (first | ((with_reducible refine gate_dst (N := 7) rfl ?_); refine box_event ?hg (N := 7) ?hd (cs := #[.int .u32 0, .int .u32 0]) (t := 24) ?hr ?_; (case hd => rfl); (case hg => rfl); (case hr => first | (go_simp; done) | (go_simp; rfl)); intro gb102 hg w13 hbox hb; have n0_ := Aside0.mk (Kd.R_below (Kd.R_elderB (by (with_reducible repeat (first | apply Kd.R_alloc | apply Kd.R_drewN | apply Kd.R_drew)); exact HO_3.out) gb102 (Nat.le_of_eq hg.symm)) hb); have n1_ := Aside0.mk (below_step (by repeat (first | (with_reducible first | exact HB.out | apply below_alloc | apply pw_below_drewN | apply below_drew1) | exact HB.out)) hb); have n2_ := Aside0.mk (hbox); have n3_ := Aside0.mk ((by rw [hg]; exact (below_size (by repeat (first | (with_reducible first | exact HB.out | apply below_alloc | apply pw_below_drewN | apply below_drew1) | exact HB.out))) : w.heap.size ≤ gb102)); have n4_ := Aside0.mk ((by rw [hg]; exact (below_size (by repeat (first | (with_reducible first | exact HB.out | apply below_alloc | apply pw_below_drewN | apply below_drew1) | exact HB.out))) : w.heap.size ≤ gb102)); clear HO_3; clear HB; have HO_3 := n0_; have HB := n1_; have BK102 := n2_; have GW102 := n3_; have GE102 := n4_; clear n0_ n1_ n2_ n3_ n4_; clear hb hbox hg; have hcz14_0 : w13.cell? ⟨gb102, 0, none⟩ = some (.int .u32 0) := (blk_cell BK102.out 0).trans rfl; have hcz14_1 : w13.cell? ⟨gb102, 1, none⟩ = some (.int .u32 0) := (blk_cell BK102.out 1).trans rfl; have hfz14_0 := blk_frozen BK102.out 0; have hfz14_1 := blk_frozen BK102.out 1))
                    go_roundg k1
                    case measure => have := HK1.out; omega
                    case rel => exact ⟨(x3_1), (x4_1), ((rd_T24 l0 x16_1).f0), (wrap64 (x16_1 + 1)), (by first | rfl | (simp; done) | (simp [*]; done)), (by first | rfl | (simp; done) | (simp [*]; done)), (by first | rfl | (simp; done) | (simp [*]; done)), H', ⟨by have := HK1.out; omega⟩, ⟨by (with_reducible repeat (first | apply Kd.R_alloc | apply Kd.R_drewN | apply Kd.R_drew)); exact Kd.R_mono (Kd.R_far (p := ⟨gb102, 1, none⟩) (Kd.R_far (p := ⟨gb102, 0, none⟩) (Kd.R_mono HO_3.out (fun k_ hk => (⟨hk, hk.2⟩ : _ ∧ k_ ≠ gb102))) (fun _ hk => hk.2) (.int .u32 ((rd_T24 l0 x16_1).f0))) (fun _ hk => hk.2) (.int .u32 ((rd_T24 l0 x16_1).f1))) (fun _ hk => trivial)⟩, ⟨by repeat (first | (with_reducible first | exact HB.out | apply below_alloc | apply pw_below_drewN | apply below_drew1 | refine below_set ?_ GE102.out) | exact HB.out)⟩⟩
                  · rw [if_neg c12] at H
                    have c12b0 : decide (((rd_T24 l0 x16_1).f0) < x5_1) = false := decide_eq_false c12
                    clear c12
                    have H' := Aside0.mk H
                    clear H
                    have p101 : 0 ≤ (x16_1 : Int) := of_decide_eq_true (by first | (with_reducible assumption) | assumption)
                    have q101 : x16_1 < (l0.length : Int) := of_decide_eq_true (by first | (with_reducible assumption) | assumption)
                    obtain ⟨ad101, e101, hx101_0, hx101_1⟩ := at_T24 HR0.out x16_1 p101 q101
                    cases e101
                    replace hx101_0 := (HB.out.cell (World.block_lt_of_cell? w _ hx101_0)).trans hx101_0
                    replace hx101_1 := (HB.out.cell (World.block_lt_of_cell? w _ hx101_1)).trans hx101_1
                    replace p101 := eq_true p101
                    replace q101 := eq_true q101
                    go_wp2_with (first | ((with_reducible refine gate_dst (N := 7) rfl ?_); refine box_event ?hg (N := 7) ?hd (cs := #[.int .u32 0, .int .u32 0]) (t := 24) ?hr ?_; (case hd => rfl); (case hg => rfl); (case hr => first | (go_simp; done) | (go_simp; rfl)); intro gb102 hg w15 hbox hb; have n0_ := Aside0.mk (Kd.R_below (Kd.R_elderB (by (with_reducible repeat (first | apply Kd.R_alloc | apply Kd.R_drewN | apply Kd.R_drew)); exact HO_3.out) gb102 (Nat.le_of_eq hg.symm)) hb); have n1_ := Aside0.mk (below_step (by repeat (first | (with_reducible first | exact HB.out | apply below_alloc | apply pw_below_drewN | apply below_drew1) | exact HB.out)) hb); have n2_ := Aside0.mk (hbox); have n3_ := Aside0.mk ((by rw [hg]; exact (below_size (by repeat (first | (with_reducible first | exact HB.out | apply below_alloc | apply pw_below_drewN | apply below_drew1) | exact HB.out))) : w.heap.size ≤ gb102)); have n4_ := Aside0.mk ((by rw [hg]; exact (below_size (by repeat (first | (with_reducible first | exact HB.out | apply below_alloc | apply pw_below_drewN | apply below_drew1) | exact HB.out))) : w.heap.size ≤ gb102)); clear HO_3; clear HB; have HO_3 := n0_; have HB := n1_; have BK102 := n2_; have GW102 := n3_; have GE102 := n4_; clear n0_ n1_ n2_ n3_ n4_; clear hb hbox hg; have hcz16_0 : w15.cell? ⟨gb102, 0, none⟩ = some (.int .u32 0) := (blk_cell BK102.out 0).trans rfl; have hcz16_1 : w15.cell? ⟨gb102, 1, none⟩ = some (.int .u32 0) := (blk_cell BK102.out 1).trans rfl; have hfz16_0 := blk_frozen BK102.out 0; have hfz16_1 := blk_frozen BK102.out 1))
                    go_roundg k1
                    case measure => have := HK1.out; omega
                    case rel => exact ⟨(x3_1), (x4_1), (x5_1), (wrap64 (x16_1 + 1)), (by first | rfl | (simp; done) | (simp [*]; done)), (by first | rfl | (simp; done) | (simp [*]; done)), (by first | rfl | (simp; done) | (simp [*]; done)), H', ⟨by have := HK1.out; omega⟩, ⟨by (with_reducible repeat (first | apply Kd.R_alloc | apply Kd.R_drewN | apply Kd.R_drew)); exact Kd.R_mono (Kd.R_far (p := ⟨gb102, 1, none⟩) (Kd.R_far (p := ⟨gb102, 0, none⟩) (Kd.R_mono HO_3.out (fun k_ hk => (⟨hk, hk.2⟩ : _ ∧ k_ ≠ gb102))) (fun _ hk => hk.2) (.int .u32 ((rd_T24 l0 x16_1).f0))) (fun _ hk => hk.2) (.int .u32 ((rd_T24 l0 x16_1).f1))) (fun _ hk => trivial)⟩, ⟨by repeat (first | (with_reducible first | exact HB.out | apply below_alloc | apply pw_below_drewN | apply below_drew1 | refine below_set ?_ GE102.out) | exact HB.out)⟩⟩
              · rw [if_neg c8] at H
                have c8b0 : (((rd_T24 l0 x16_1).f1) == 0) = false := beq_eq_false_iff_ne.mpr c8
                have c8b1 : (((rd_T24 l0 x16_1).f1) != 0) = true := bne_iff_ne.mpr c8
                by_cases c17 : x3_1.length < 17592186044416
                · rw [if_pos c17] at H
                  have LMc17 := Aside0.mk c17
                  clear c17
                  obtain ⟨y103, hy103⟩ : ∃ y_ : List (S24), y_ = (x3_1 ++ [(⟨(rd_T24 l0 x16_1).f0, (rd_T24 l0 x16_1).f1⟩ : S24)]) := ⟨_, rfl⟩
                  replace H : (spec_Set9.l0 k1 l0 y103 x4_1 x5_1 (l0.length : Int) (wrap64 (x16_1 + 1))) = some r := by first | (rw [hy103]; with_reducible exact H) | (have H2_ := (Option.bind_some _ _).symm.trans H; rw [hy103]; with_reducible exact H2_) | (have H2_ := (Option.bind_some _ _).symm.trans H; with_reducible exact H2_) | with_reducible exact H | (rw [hy103]; exact H) | exact H
                  have Ny103 := Aside0.mk hy103
                  clear hy103
                  have H' := Aside0.mk H
                  clear H
                  have p101 : 0 ≤ (x16_1 : Int) := of_decide_eq_true (by first | (with_reducible assumption) | assumption)
                  have q101 : x16_1 < (l0.length : Int) := of_decide_eq_true (by first | (with_reducible assumption) | assumption)
                  obtain ⟨ad101, e101, hx101_0, hx101_1⟩ := at_T24 HR0.out x16_1 p101 q101
                  cases e101
                  replace hx101_0 := (HB.out.cell (World.block_lt_of_cell? w _ hx101_0)).trans hx101_0
                  replace hx101_1 := (HB.out.cell (World.block_lt_of_cell? w _ hx101_1)).trans hx101_1
                  replace p101 := eq_true p101
                  replace q101 := eq_true q101
                  go_wp2_with (first | ((with_reducible refine gate_dst (N := 7) rfl ?_); refine box_event ?hg (N := 7) ?hd (cs := #[.int .u32 0, .int .u32 0]) (t := 24) ?hr ?_; (case hd => rfl); (case hg => rfl); (case hr => first | (go_simp; done) | (go_simp; rfl)); intro gb102 hg w18 hbox hb; have n0_ := Aside0.mk (Kd.R_below (Kd.R_elderB (by (with_reducible repeat (first | apply Kd.R_alloc | apply Kd.R_drewN | apply Kd.R_drew)); exact HO_3.out) gb102 (Nat.le_of_eq hg.symm)) hb); have n1_ := Aside0.mk (below_step (by repeat (first | (with_reducible first | exact HB.out | apply below_alloc | apply pw_below_drewN | apply below_drew1) | exact HB.out)) hb); have n2_ := Aside0.mk (hbox); have n3_ := Aside0.mk ((by rw [hg]; exact (below_size (by repeat (first | (with_reducible first | exact HB.out | apply below_alloc | apply pw_below_drewN | apply below_drew1) | exact HB.out))) : w.heap.size ≤ gb102)); have n4_ := Aside0.mk ((by rw [hg]; exact (below_size (by repeat (first | (with_reducible first | exact HB.out | apply below_alloc | apply pw_below_drewN | apply below_drew1) | exact HB.out))) : w.heap.size ≤ gb102)); clear HO_3; clear HB; have HO_3 := n0_; have HB := n1_; have BK102 := n2_; have GW102 := n3_; have GE102 := n4_; clear n0_ n1_ n2_ n3_ n4_; clear hb hbox hg; have hcz19_0 : w18.cell? ⟨gb102, 0, none⟩ = some (.int .u32 0) := (blk_cell BK102.out 0).trans rfl; have hcz19_1 : w18.cell? ⟨gb102, 1, none⟩ = some (.int .u32 0) := (blk_cell BK102.out 1).trans rfl; have hfz19_0 := blk_frozen BK102.out 0; have hfz19_1 := blk_frozen BK102.out 1) | ((with_reducible refine gate_builtin (b := .append) (xs := #[.tmp 23, .tmp 25]) rfl ?_); at_builtin; refine Kd.R_append k24 (w0 := w) w.heap.size rfl (.tmp 23) (.tmp 25) 26 24 (.agg #[(.int .u32 0), (.int .u32 0)]) 8 rfl Tryd.underlying26 info24 rfl (by decide) (by omega) u3 x3_1 (⟨(rd_T24 l0 x16_1).f0, (rd_T24 l0 x16_1).f1⟩ : S24) [.int .u32 ((rd_T24 l0 x16_1).f0), .int .u32 ((rd_T24 l0 x16_1).f1)] (fun k_ => k_ ≠ gb102) (fun _ => False) rfl (by first | (go_simp; done) | (go_simp; rfl)) ?aP (fun _ hk => hk.elim) ?aF ?aO ?aB ?aS ?aL ?_; (case aP => exact k24_mkM _ _ _ (⟨(rd_T24 l0 x16_1).f0, (rd_T24 l0 x16_1).f1⟩ : S24)); (case aB => exact (by repeat (first | (with_reducible first | exact HB.out | apply below_alloc | apply pw_below_drewN | apply below_drew1 | refine below_set ?_ GE102.out) | exact HB.out))); (case aF => exact (fun k_ hk => Kd.freshB (g := gb102) (o := .cells #[.int .u32 ((rd_T24 l0 x16_1).f0), .int .u32 ((rd_T24 l0 x16_1).f1)] 24 (0, 0)) (by (with_reducible repeat (first | refine blk_drewN ?_ _ | refine blk_drew ?_ | refine blk_alloc ?_ _)); refine blk_put (cs := #[.int .u32 ((rd_T24 l0 x16_1).f0), .int .u32 0]) ?_ 1 _ rfl; (with_reducible repeat (first | refine blk_drewN ?_ _ | refine blk_drew ?_ | refine blk_alloc ?_ _)); refine blk_put (cs := #[.int .u32 0, .int .u32 0]) ?_ 0 _ rfl; (with_reducible repeat (first | refine blk_drewN ?_ _ | refine blk_drew ?_ | refine blk_alloc ?_ _)); exact BK102.out) k_ hk)); (case aO => exact (by (with_reducible repeat (first | apply Kd.R_alloc | apply Kd.R_drewN | apply Kd.R_drew)); exact Kd.R_mono (Kd.R_far (p := ⟨gb102, 1, none⟩) (Kd.R_far (p := ⟨gb102, 0, none⟩) (Kd.R_mono HO_3.out (fun k_ hk => (⟨hk, hk.2⟩ : _ ∧ k_ ≠ gb102))) (fun _ hk => hk.2) (.int .u32 ((rd_T24 l0 x16_1).f0))) (fun _ hk => hk.2) (.int .u32 ((rd_T24 l0 x16_1).f1))) (fun _ hk => hk.1.2))); (case aS => exact (below_size (by repeat (first | (with_reducible first | exact HB.out | apply below_alloc | apply pw_below_drewN | apply below_drew1 | refine below_set ?_ GE102.out) | exact HB.out)))); (case aL => have := LMc17.out; omega); intro v104 w20 ho hb hg hat; rw [← Ny103.out] at ho; have n0_ := Aside0.mk (blk_grown (g := gb102) (o := .cells #[.int .u32 ((rd_T24 l0 x16_1).f0), .int .u32 ((rd_T24 l0 x16_1).f1)] 24 (0, 0)) (by (with_reducible repeat (first | refine blk_drewN ?_ _ | refine blk_drew ?_ | refine blk_alloc ?_ _)); refine blk_put (cs := #[.int .u32 ((rd_T24 l0 x16_1).f0), .int .u32 0]) ?_ 1 _ rfl; (with_reducible repeat (first | refine blk_drewN ?_ _ | refine blk_drew ?_ | refine blk_alloc ?_ _)); refine blk_put (cs := #[.int .u32 0, .int .u32 0]) ?_ 0 _ rfl; (with_reducible repeat (first | refine blk_drewN ?_ _ | refine blk_drew ?_ | refine blk_alloc ?_ _)); exact BK102.out) hg (Kd.R_away HO_3.out (fun _ hk => hk.2))); have n1_ := Aside0.mk (hb); have n2_ := Aside0.mk (ho); clear BK102; clear HB; clear HO_3; have BK102 := n0_; have HB := n1_; have HO105 := n2_; clear n0_ n1_ n2_; clear ho hb hg hat))
                  go_roundg k1
                  case measure => have := HK1.out; omega
                  case rel => exact ⟨(y103), (x4_1), (x5_1), (wrap64 (x16_1 + 1)), (by first | rfl | (simp; done) | (simp [*]; done)), (by first | rfl | (simp; done) | (simp [*]; done)), (by first | rfl | (simp; done) | (simp [*]; done)), H', ⟨by have := HK1.out; omega⟩, ⟨by (with_reducible repeat (first | apply Kd.R_alloc | apply Kd.R_drewN | apply Kd.R_drew)); exact Kd.R_mono HO105.out (fun _ hk => trivial)⟩, ⟨by repeat (first | (with_reducible first | exact HB.out | apply below_alloc | apply pw_below_drewN | apply below_drew1 | refine below_set ?_ GE102.out) | exact HB.out)⟩⟩
                · rw [if_neg c17] at H
                  exact absurd H (by simp)
          · rw [if_neg c4] at H
            exact absurd H (by simp)
        · rw [if_neg c3] at H
          exact absurd H (by simp)
      · rw [if_neg c2] at H
        have c2b0 : decide (x16_1 < (l0.length : Int)) = false := decide_eq_false c2
        clear c2
        have H' := Aside0.mk H
        clear H
        obtain ⟨Ao21, co21, eo21⟩ := Kd.R_slice HO_3.out
        subst eo21
        go_wp2
        go_loopg [48] k1 (fun kq v48 w' => ∃ (x3_2 : List (S24)) (x48_2 : Int), v48 = .int .i64 x48_2 ∧ Aside0 (spec_Set9.l1 kq x3_2 x4_1 x5_1 (x3_1.length : Int) x48_2 = some r) ∧ Aside0 (kq ≤ k1) ∧ Aside0 (Kd.R k24 24 w' w.heap.size (fun _ => True) (.slice Ao21 x3_1.length co21) x3_2) ∧ Aside0 (Below w.heap.size w w'))
        case atStart => exact ⟨(x3_1), (0), (by first | rfl | (simp; done) | (simp [*]; done)), H', ⟨Nat.le_refl _⟩, ⟨by (with_reducible repeat (first | apply Kd.R_alloc | apply Kd.R_drewN | apply Kd.R_drew)); exact HO_3.out⟩, ⟨by repeat (first | (with_reducible first | exact HB.out | apply below_alloc | apply pw_below_drewN | apply below_drew1) | exact HB.out)⟩⟩
        case round =>
          clear H'
          try clear c1
          try clear p1
          try clear q1
          try clear hx1
          try clear c2
          try clear c2b0
          try clear p2
          try clear c3
          try clear c3b0
          try clear c4
          try clear c4b0
          try clear c5
          try clear c5b0
          try clear c5b1
          try clear p6
          try clear c8
          try clear c8b0
          try clear c8b1
          try clear c9
          try clear c9b0
          try clear c9b1
          try clear p10
          try clear q10
          try clear hx10
          try clear c12
          try clear c12b0
          try clear c17
          try clear hcz11_0
          try clear hcz11_1
          try clear hcz14_0
          try clear hcz14_1
          try clear hcz16_0
          try clear hcz16_1
          try clear hcz19_0
          try clear hcz19_1
          try clear hcz7_0
          try clear hcz7_1
          try clear hfz11_0
          try clear hfz11_1
          try clear hfz14_0
          try clear hfz14_1
          try clear hfz16_0
          try clear hfz16_1
          try clear hfz19_0
          try clear hfz19_1
          try clear hfz7_0
          try clear hfz7_1
          try clear hx101_0
          try clear hx101_1
          try clear p101
          try clear q101
          obtain ⟨x3_2, x48_2, rfl, HA, HK2, HO_3, HB⟩ := hrel
          have hl3_2 := (Kd.R_reads' HO_3.out).1
          rw [hl3_2] at HO_3
          (try simp only [hl3_2])
          cases gk with
          | zero => exact absurd HA.out (by simp [spec_Set9.l1])
          | succ k2 =>
            have H := HA.out
            clear HA
            simp only [spec_Set9.l1] at H
            by_cases c22 : x48_2 < (x3_1.length : Int)
            · rw [if_pos c22] at H
              have c22b0 : decide (x48_2 < (x3_1.length : Int)) = true := decide_eq_true c22
              try simp only [hl3_2] at c22b0
              clear c22
              have H' := Aside0.mk H
              clear H
              go_wp2
              go_loopg [9] k2 (fun kq v9 w' => ∃ (x3_3 : List (S24)) (x9_3 : Int), v9 = .int .i64 x9_3 ∧ Aside0 (spec_Set9.l2 kq x3_3 x4_1 x5_1 x9_3 (x3_1.length : Int) x48_2 = some r) ∧ Aside0 (kq ≤ k2) ∧ Aside0 (Kd.R k24 24 w' w.heap.size (fun _ => True) (.slice Ao21 x3_2.length co21) x3_3) ∧ Aside0 (Below w.heap.size w w'))
              case atStart => exact ⟨(x3_2), (x48_2), (by first | rfl | (simp; done) | (simp [*]; done)), H', ⟨Nat.le_refl _⟩, ⟨by (try simp only [hl3_2]); (with_reducible repeat (first | apply Kd.R_alloc | apply Kd.R_drewN | apply Kd.R_drew)); exact HO_3.out⟩, ⟨by repeat (first | (with_reducible first | exact HB.out | apply below_alloc | apply pw_below_drewN | apply below_drew1) | exact HB.out)⟩⟩
              case round =>
                clear H'
                try clear c1
                try clear p1
                try clear q1
                try clear hx1
                try clear c2
                try clear c2b0
                try clear p2
                try clear c3
                try clear c3b0
                try clear c4
                try clear c4b0
                try clear c5
                try clear c5b0
                try clear c5b1
                try clear p6
                try clear c8
                try clear c8b0
                try clear c8b1
                try clear c9
                try clear c9b0
                try clear c9b1
                try clear p10
                try clear q10
                try clear hx10
                try clear c12
                try clear c12b0
                try clear c17
                try clear c22
                try clear c22b0
                try clear hcz11_0
                try clear hcz11_1
                try clear hcz14_0
                try clear hcz14_1
                try clear hcz16_0
                try clear hcz16_1
                try clear hcz19_0
                try clear hcz19_1
                try clear hcz7_0
                try clear hcz7_1
                try clear hfz11_0
                try clear hfz11_1
                try clear hfz14_0
                try clear hfz14_1
                try clear hfz16_0
                try clear hfz16_1
                try clear hfz19_0
                try clear hfz19_1
                try clear hfz7_0
                try clear hfz7_1
                try clear hx101_0
                try clear hx101_1
                try clear p1
                try clear p10
                try clear p101
                try clear p2
                try clear p6
                try clear q1
                try clear q10
                try clear q101
                obtain ⟨x3_3, x9_3, rfl, HA, HK3, HO_3, HB⟩ := hrel
                have hl3_3 := (Kd.R_reads' HO_3.out).1
                rw [hl3_3] at HO_3
                (try simp only [hl3_3])
                cases gk with
                | zero => exact absurd HA.out (by simp [spec_Set9.l2])
                | succ k3 =>
                  have H := HA.out
                  clear HA
                  simp only [spec_Set9.l2] at H
                  by_cases c23 : x9_3 > 0
                  · rw [if_pos c23] at H
                    have c23b0 : decide (0 < x9_3) = true := decide_eq_true c23
                    clear c23
                    by_cases c24 : 0 ≤ x9_3
                    · rw [if_pos c24] at H
                      have c24b0 : decide (0 ≤ x9_3) = true := decide_eq_true c24
                      clear c24
                      by_cases c25 : x9_3 < (x3_3.length : Int)
                      · rw [if_pos c25] at H
                        have c25b0 : decide (x9_3 < (x3_3.length : Int)) = true := decide_eq_true c25
                        try simp only [hl3_2] at c25b0
                        try simp only [hl3_3] at c25b0
                        clear c25
                        obtain ⟨ji26, hji26⟩ : ∃ j_ : Int, (wrap64 (x9_3 - 1)) = j_ := ⟨_, rfl⟩
                        replace H : (if 0 ≤ (ji26) then (if (ji26) < (x3_3.length : Int) then (if ((rd_T24 x3_3 x9_3).f0) < ((rd_T24 x3_3 (ji26)).f0) then (spec_Set9.l2 k3 ((x3_3.set (x9_3 : Int).toNat (⟨(rd_T24 x3_3 (ji26)).f0, (rd_T24 x3_3 (ji26)).f1⟩ : S24)).set ((ji26) : Int).toNat (⟨(rd_T24 x3_3 x9_3).f0, (rd_T24 x3_3 x9_3).f1⟩ : S24)) x4_1 x5_1 ji26 (x3_1.length : Int) x48_2) else (spec_Set9.l1 k3 x3_3 x4_1 x5_1 (x3_1.length : Int) (wrap64 (x48_2 + 1)))) else (none)) else (none)) = some r := by first | (rw [hji26] at H; exact H) | (simp only [hji26] at H ⊢; exact H)
                        have hji26w : (IntKind.i64.wrap (x9_3 - 1)) = ji26 := (i64_w _).trans hji26
                        by_cases c27 : 0 ≤ (ji26)
                        · rw [if_pos c27] at H
                          have c27b0 : decide (0 ≤ (ji26)) = true := decide_eq_true c27
                          clear c27
                          by_cases c28 : (ji26) < (x3_3.length : Int)
                          · rw [if_pos c28] at H
                            have c28b0 : decide ((ji26) < (x3_3.length : Int)) = true := decide_eq_true c28
                            try simp only [hl3_2] at c28b0
                            try simp only [hl3_3] at c28b0
                            clear c28
                            by_cases c29 : ((rd_T24 x3_3 x9_3).f0) < ((rd_T24 x3_3 (ji26)).f0)
                            · rw [if_pos c29] at H
                              have c29b0 : decide (((rd_T24 x3_3 x9_3).f0) < ((rd_T24 x3_3 (ji26)).f0)) = true := decide_eq_true c29
                              clear c29
                              obtain ⟨y110, hy110⟩ : ∃ y_ : List (S24), y_ = (x3_3.set (x9_3 : Int).toNat (⟨(rd_T24 x3_3 (ji26)).f0, (rd_T24 x3_3 (ji26)).f1⟩ : S24)) := ⟨_, rfl⟩
                              replace H : (spec_Set9.l2 k3 (y110.set ((ji26) : Int).toNat (⟨(rd_T24 x3_3 x9_3).f0, (rd_T24 x3_3 x9_3).f1⟩ : S24)) x4_1 x5_1 ji26 (x3_1.length : Int) x48_2) = some r := by first | (rw [hy110]; with_reducible exact H) | (have H2_ := (Option.bind_some _ _).symm.trans H; rw [hy110]; with_reducible exact H2_) | (have H2_ := (Option.bind_some _ _).symm.trans H; with_reducible exact H2_) | with_reducible exact H | (rw [hy110]; exact H) | exact H
                              have Ny110 := Aside0.mk hy110
                              clear hy110
                              obtain ⟨y111, hy111⟩ : ∃ y_ : List (S24), y_ = (y110.set ((ji26) : Int).toNat (⟨(rd_T24 x3_3 x9_3).f0, (rd_T24 x3_3 x9_3).f1⟩ : S24)) := ⟨_, rfl⟩
                              replace H : (spec_Set9.l2 k3 y111 x4_1 x5_1 ji26 (x3_1.length : Int) x48_2) = some r := by first | (rw [hy111]; with_reducible exact H) | (have H2_ := (Option.bind_some _ _).symm.trans H; rw [hy111]; with_reducible exact H2_) | (have H2_ := (Option.bind_some _ _).symm.trans H; with_reducible exact H2_) | with_reducible exact H | (rw [hy111]; exact H) | exact H
                              have Ny111 := Aside0.mk hy111
                              clear hy111
                              have H' := Aside0.mk H
                              clear H
                              try go_wp2
                              have n0_ := Aside0.mk (Kd.R_drew HO_3.out)
                              have n1_ := Aside0.mk (below_drew1 HB.out)
                              clear HO_3
                              clear HB
                              have HO_3 := n0_
                              have HB := n1_
                              clear n0_ n1_
                              have p106 : 0 ≤ (x9_3 : Int) := of_decide_eq_true (by first | (with_reducible assumption) | assumption)
                              have q106 : x9_3 < (x3_3.length : Int) := of_decide_eq_true (by first | (with_reducible assumption) | assumption)
                              obtain ⟨ad106, e106, hx106_0, hx106_1⟩ := at_T24 (Kd.R_reads' HO_3.out).2.2 x9_3 p106 q106
                              cases e106
                              replace p106 := eq_true p106
                              replace q106 := eq_true q106
                              have p107 : 0 ≤ ((ji26) : Int) := of_decide_eq_true (by first | (with_reducible assumption) | assumption)
                              have q107 : (ji26) < (x3_3.length : Int) := of_decide_eq_true (by first | (with_reducible assumption) | assumption)
                              obtain ⟨ad107, e107, hx107_0, hx107_1⟩ := at_T24 (Kd.R_reads' HO_3.out).2.2 (ji26) p107 q107
                              obtain rfl : ad106 = ad107 := (by injection e107)
                              replace p107 := eq_true p107
                              replace q107 := eq_true q107
                              refine start_ (n := 16) (S := fun w' => w'.cell? (ad106.add ((x9_3).toNat * 2)) = some (.int .u32 ((rd_T24 x3_3 x9_3).f0)) ∧ w'.cell? ⟨(ad106.add ((x9_3).toNat * 2)).block, (ad106.add ((x9_3).toNat * 2)).off + 1, none⟩ = some (.int .u32 ((rd_T24 x3_3 x9_3).f1)) ∧ w'.cell? (ad106.add (((ji26)).toNat * 2)) = some (.int .u32 ((rd_T24 x3_3 (ji26)).f0)) ∧ w'.cell? ⟨(ad106.add (((ji26)).toNat * 2)).block, (ad106.add (((ji26)).toNat * 2)).off + 1, none⟩ = some (.int .u32 ((rd_T24 x3_3 (ji26)).f1))) (ds := []) #[false, false, false, false, false, false, false, false, false, false, false, false, false, false, false, false] (by kernel_rfl) rfl rfl ⟨hx106_0, hx106_1, hx107_0, hx107_1⟩ (fun hHeld => ?_); refine with_tabW spec_Set9.tab18 spec_Set9.bits18 (fun HT_ HW_ => ?_)
                              generalize wr.drew = w32 at HO_3 HB hx106_0 hx106_1 hx107_0 hx107_1 hHeld ⊢
                              refine pure_ (i := 0) (N := some 52) (v := ?_) (a' := ?_) #[true, false, false, false, false, false, false, false, false, false, false, false, false, false, false, false] rfl rfl (any_of HT_.out (by kernel_rfl)) (fun _ _ _ h => h) (Or.inl ⟨by rfl, ?_⟩) ?_ ?_
                              rotate_left
                              · intro w'
                                go_simp
                                with_reducible rfl
                              rotate_left
                              · simp only [Act.put, List.setIfInBounds_toArray, List.set_cons_zero, List.set_cons_succ, i64_w, i32_w]
                                rfl
                              refine pure_ (i := 1) (N := some 53) (v := ?_) (a' := ?_) #[true, true, false, false, false, false, false, false, false, false, false, false, false, false, false, false] rfl rfl (any_of HT_.out (by kernel_rfl)) (fun _ _ _ h => h) (Or.inl ⟨by rfl, ?_⟩) ?_ ?_
                              rotate_left
                              · intro w'
                                go_simp
                                with_reducible rfl
                              rotate_left
                              · simp only [Act.put, List.setIfInBounds_toArray, List.set_cons_zero, List.set_cons_succ, i64_w, i32_w]
                                rfl
                              refine pure_ (i := 2) (N := some 54) (v := ?_) (a' := ?_) #[true, true, true, false, false, false, false, false, false, false, false, false, false, false, false, false] rfl rfl (any_of HT_.out (by kernel_rfl)) (fun _ _ _ h => h) (Or.inl ⟨by rfl, ?_⟩) ?_ ?_
                              rotate_left
                              · intro w'
                                go_simp
                                with_reducible rfl
                              rotate_left
                              · simp only [Act.put, List.setIfInBounds_toArray, List.set_cons_zero, List.set_cons_succ, i64_w, i32_w]
                                rfl
                              refine pure_ (i := 3) (N := some 55) (v := ?_) (a' := ?_) #[true, true, true, true, false, false, false, false, false, false, false, false, false, false, false, false] rfl rfl (any_of HT_.out (by kernel_rfl)) (fun _ _ _ h => h) (Or.inl ⟨by rfl, ?_⟩) ?_ ?_
                              rotate_left
                              · intro w'
                                go_simp
                                with_reducible rfl
                              rotate_left
                              · simp only [Act.put, List.setIfInBounds_toArray, List.set_cons_zero, List.set_cons_succ, i64_w, i32_w]
                                rfl
                              refine pure_ (i := 4) (N := some 56) (v := ?_) (a' := ?_) #[true, true, true, true, true, false, false, false, false, false, false, false, false, false, false, false] rfl rfl (any_of HT_.out (by kernel_rfl)) (fun _ _ _ h => h) (Or.inl ⟨by rfl, ?_⟩) ?_ ?_
                              rotate_left
                              · intro w'
                                go_simp
                                with_reducible rfl
                              rotate_left
                              · simp only [Act.put, List.setIfInBounds_toArray, List.set_cons_zero, List.set_cons_succ, i64_w, i32_w]
                                rfl
                              refine pure_ (i := 5) (N := some 57) (v := ?_) (a' := ?_) #[true, true, true, true, true, true, false, false, false, false, false, false, false, false, false, false] rfl rfl (any_of HT_.out (by kernel_rfl)) (fun _ _ _ h => h) (Or.inl ⟨by rfl, ?_⟩) ?_ ?_
                              rotate_left
                              · intro w'
                                go_simp
                                with_reducible rfl
                              rotate_left
                              · simp only [Act.put, List.setIfInBounds_toArray, List.set_cons_zero, List.set_cons_succ, i64_w, i32_w]
                                rfl
                              refine pure_ (i := 6) (N := some 58) (v := ?_) (a' := ?_) #[true, true, true, true, true, true, true, false, false, false, false, false, false, false, false, false] rfl rfl (any_of HT_.out (by kernel_rfl)) (fun _ _ _ h => h) (Or.inl ⟨by rfl, ?_⟩) ?_ ?_
                              rotate_left
                              · intro w'
                                go_simp
                                with_reducible rfl
                              rotate_left
                              · simp only [Act.put, List.setIfInBounds_toArray, List.set_cons_zero, List.set_cons_succ, i64_w, i32_w]
                                rfl
                              refine pure_ (i := 8) (N := some 60) (v := ?_) (a' := ?_) #[true, true, true, true, true, true, true, false, true, false, false, false, false, false, false, false] rfl rfl (any_of HT_.out (by kernel_rfl)) (fun _ _ _ h => h) (Or.inl ⟨by rfl, ?_⟩) ?_ ?_
                              rotate_left
                              · intro w'
                                go_simp
                                with_reducible rfl
                              rotate_left
                              · simp only [Act.put, List.setIfInBounds_toArray, List.set_cons_zero, List.set_cons_succ, i64_w, i32_w]
                                rfl
                              refine pure_ (i := 9) (N := some 61) (v := ?_) (a' := ?_) #[true, true, true, true, true, true, true, false, true, true, false, false, false, false, false, false] rfl rfl (any_of HT_.out (by kernel_rfl)) (fun _ _ _ h => h) (Or.inl ⟨by rfl, ?_⟩) ?_ ?_
                              rotate_left
                              · intro w'
                                go_simp
                                with_reducible rfl
                              rotate_left
                              · simp only [Act.put, List.setIfInBounds_toArray, List.set_cons_zero, List.set_cons_succ, i64_w, i32_w]
                                rfl
                              refine pure_ (i := 10) (N := some 62) (v := ?_) (a' := ?_) #[true, true, true, true, true, true, true, false, true, true, true, false, false, false, false, false] rfl rfl (any_of HT_.out (by kernel_rfl)) (fun _ _ _ h => h) (Or.inl ⟨by rfl, ?_⟩) ?_ ?_
                              rotate_left
                              · intro w'
                                go_simp
                                with_reducible rfl
                              rotate_left
                              · simp only [Act.put, List.setIfInBounds_toArray, List.set_cons_zero, List.set_cons_succ, i64_w, i32_w]
                                rfl
                              refine pure_ (i := 11) (N := some 63) (v := ?_) (a' := ?_) #[true, true, true, true, true, true, true, false, true, true, true, true, false, false, false, false] rfl rfl (any_of HT_.out (by kernel_rfl)) (fun _ _ _ h => h) (Or.inl ⟨by rfl, ?_⟩) ?_ ?_
                              rotate_left
                              · intro w'
                                go_simp
                                with_reducible rfl
                              rotate_left
                              · simp only [Act.put, List.setIfInBounds_toArray, List.set_cons_zero, List.set_cons_succ, i64_w, i32_w]
                                rfl
                              refine pure_ (i := 12) (N := some 64) (v := ?_) (a' := ?_) #[true, true, true, true, true, true, true, false, true, true, true, true, true, false, false, false] rfl rfl (any_of HT_.out (by kernel_rfl)) (fun _ _ _ h => h) (Or.inl ⟨by rfl, ?_⟩) ?_ ?_
                              rotate_left
                              · intro w'
                                go_simp
                                with_reducible rfl
                              rotate_left
                              · simp only [Act.put, List.setIfInBounds_toArray, List.set_cons_zero, List.set_cons_succ, i64_w, i32_w]
                                rfl
                              refine take_ (i := 7) (N := some 59) (v := ?_) (a' := ?_) #[true, true, true, true, true, true, true, true, true, true, true, true, true, false, false, false] rfl rfl (take_ofW HT_.out HW_.out (by kernel_rfl)) (fun _ _ _ h => h) (Or.inl ⟨by rfl, ?_⟩) hHeld ?_ ?_
                              rotate_left
                              · rintro w' ⟨s0, s1, s2, s3⟩
                                go_simp
                                with_reducible rfl
                              rotate_left
                              · simp only [Act.put, List.setIfInBounds_toArray, List.set_cons_zero, List.set_cons_succ, i64_w, i32_w]
                                rfl
                              refine take_ (i := 13) (N := some 65) (v := ?_) (a' := ?_) #[true, true, true, true, true, true, true, true, true, true, true, true, true, true, false, false] rfl rfl (take_ofW HT_.out HW_.out (by kernel_rfl)) (fun _ _ _ h => h) (Or.inl ⟨by rfl, ?_⟩) hHeld ?_ ?_
                              rotate_left
                              · rintro w' ⟨s0, s1, s2, s3⟩
                                go_simp
                                with_reducible rfl
                              rotate_left
                              · simp only [Act.put, List.setIfInBounds_toArray, List.set_cons_zero, List.set_cons_succ, i64_w, i32_w]
                                rfl
                              refine pure_ (i := 14) (N := some 66) (v := ?_) (a' := ?_) #[true, true, true, true, true, true, true, true, true, true, true, true, true, true, true, false] rfl rfl (any_of HT_.out (by kernel_rfl)) (fun _ _ _ h => h) (Or.inl ⟨by rfl, ?_⟩) ?_ ?_
                              rotate_left
                              · intro w'
                                go_simp
                                with_reducible rfl
                              rotate_left
                              · simp only [Act.put, List.setIfInBounds_toArray, List.set_cons_zero, List.set_cons_succ, i64_w, i32_w]
                                rfl
                              refine pure_ (i := 15) (N := some 67) (v := ?_) (a' := ?_) #[true, true, true, true, true, true, true, true, true, true, true, true, true, true, true, true] rfl rfl (any_of HT_.out (by kernel_rfl)) (fun _ _ _ h => h) (Or.inl ⟨by rfl, ?_⟩) ?_ ?_
                              rotate_left
                              · intro w'
                                go_simp
                                with_reducible rfl
                              rotate_left
                              · simp only [Act.put, List.setIfInBounds_toArray, List.set_cons_zero, List.set_cons_succ, i64_w, i32_w]
                                rfl
                              refine done_ (done_of HT_.out (by kernel_rfl)) ?_
                              try go_wp2
                              have n0_ := Aside0.mk (Kd.R_drew HO_3.out)
                              have n1_ := Aside0.mk (below_drew1 HB.out)
                              clear HO_3
                              clear HB
                              have HO_3 := n0_
                              have HB := n1_
                              clear n0_ n1_
                              have p108 : 0 ≤ ((ji26) : Int) := of_decide_eq_true (by first | (with_reducible assumption) | assumption)
                              have q108 : (ji26) < (x3_3.length : Int) := of_decide_eq_true (by first | (with_reducible assumption) | assumption)
                              obtain ⟨ad108, e108, hx108_0, hx108_1⟩ := at_T24 (Kd.R_reads' HO_3.out).2.2 (ji26) p108 q108
                              obtain rfl : ad106 = ad108 := (by injection e108)
                              replace p108 := eq_true p108
                              replace q108 := eq_true q108
                              have p109 : 0 ≤ (x9_3 : Int) := of_decide_eq_true (by first | (with_reducible assumption) | assumption)
                              have q109 : x9_3 < (x3_3.length : Int) := of_decide_eq_true (by first | (with_reducible assumption) | assumption)
                              obtain ⟨ad109, e109, hx109_0, hx109_1⟩ := at_T24 (Kd.R_reads' HO_3.out).2.2 x9_3 p109 q109
                              obtain rfl : ad106 = ad109 := (by injection e109)
                              replace p109 := eq_true p109
                              replace q109 := eq_true q109
                              have p30 : 0 ≤ (x9_3 : Int) := of_decide_eq_true (by first | (with_reducible assumption) | assumption)
                              have q30 : (x9_3 : Int) < ((x3_3.length : Int) : Int) := of_decide_eq_true (by first | (with_reducible assumption) | assumption)
                              obtain ⟨go30, co30, eo30, gb30, gl30, cl30, HG30⟩ := Kd.R_form HO_3.out (by omega)
                              (first | cases eo30 | (injection eo30 with ea_ en_ ec_; (first | subst ea_ | (injection ea_ with ea_; subst ea_)); subst ec_; clear en_))
                              have GB30 := Aside0.mk gb30
                              have GG30 := Aside0.mk HG30
                              clear gb30 gl30 HG30
                              (first | simp only [add_plain] at hx106_0 | skip)
                              (first | simp only [add_plain] at hx106_1 | skip)
                              (first | simp only [add_plain] at hx107_0 | skip)
                              (first | simp only [add_plain] at hx107_1 | skip)
                              (first | simp only [add_plain] at hx108_0 | skip)
                              (first | simp only [add_plain] at hx108_1 | skip)
                              (first | simp only [add_plain] at hx109_0 | skip)
                              (first | simp only [add_plain] at hx109_1 | skip)
                              obtain ⟨ce30, hcl30, hM30, hcc30, hfr30⟩ := Kd.R_elem HO_3.out z24 (x9_3 : Int) p30 q30
                              obtain rfl := k24_openM hM30
                              have hx30_0 : World.cell? _ ⟨go30, (x9_3 : Int).toNat * 2, none⟩ = some (.int .u32 ((rd_T24 x3_3 x9_3).f0)) := hcc30 0 _ rfl
                              have hx30_1 : World.cell? _ ⟨go30, (x9_3 : Int).toNat * 2 + 1, none⟩ = some (.int .u32 ((rd_T24 x3_3 x9_3).f1)) := hcc30 1 _ rfl
                              have hf30_0 : World.frozen? _ ⟨go30, (x9_3 : Int).toNat * 2, none⟩ = false := hfr30 0
                              have hf30_1 : World.frozen? _ ⟨go30, (x9_3 : Int).toNat * 2 + 1, none⟩ = false := hfr30 1
                              clear hcl30 hcc30 hfr30 hM30
                              replace p30 := eq_true p30
                              replace q30 := eq_true q30
                              obtain ⟨ce34, hcl34, hM34, hcc34, hfr34⟩ := Kd.R_elem HO_3.out z24 (x9_3 : Int) (of_decide_eq_true (by first | (with_reducible assumption) | assumption)) (by have h_ : (x9_3 : Int) < ((x3_3.length : Int) : Int) := of_decide_eq_true (by first | (with_reducible assumption) | assumption); first | exact h_ | (have e_ := (Kd.R_reads' HO_3.out).1; omega) | simpa using h_)
                              obtain rfl := k24_openM hM34
                              have HP34 := (Kd.R_seg HO_3.out (x9_3 : Int) (of_decide_eq_true (by first | (with_reducible assumption) | assumption)) (by have h_ : (x9_3 : Int) < ((x3_3.length : Int) : Int) := of_decide_eq_true (by first | (with_reducible assumption) | assumption); first | exact h_ | (have e_ := (Kd.R_reads' HO_3.out).1; omega) | simpa using h_) (seg := [.int .u32 ((rd_T24 x3_3 (ji26)).f0), .int .u32 ((rd_T24 x3_3 (ji26)).f1)]) (j := 0) hcl34 hcc34 (show 2 ≤ 2 from by decide) (x' := (⟨(rd_T24 x3_3 (ji26)).f0, (rd_T24 x3_3 (ji26)).f1⟩ : S24)) (k24_mkM _ _ _ (⟨(rd_T24 x3_3 (ji26)).f0, (rd_T24 x3_3 (ji26)).f1⟩ : S24) ) (fun _ hk => hk)).1
                              rw [← Ny110.out] at HP34
                              have HQ34 := Aside0.mk HP34
                              clear hcl34 hcc34 hfr34 hM34 HP34
                              have p31 : 0 ≤ ((ji26) : Int) := of_decide_eq_true (by first | (with_reducible assumption) | assumption)
                              have q31 : ((ji26) : Int) < ((x3_3.length : Int) : Int) := of_decide_eq_true (by first | (with_reducible assumption) | assumption)
                              obtain ⟨ce31, hcl31, hM31, hcc31, hfr31⟩ := Kd.R_elem HQ34.out z24 ((ji26) : Int) p31 q31
                              obtain rfl := k24_openM hM31
                              have hx31_0 : World.cell? _ ⟨go30, ((ji26) : Int).toNat * 2, none⟩ = some (.int .u32 ((rd_T24 y110 (ji26)).f0)) := hcc31 0 _ rfl
                              have hx31_1 : World.cell? _ ⟨go30, ((ji26) : Int).toNat * 2 + 1, none⟩ = some (.int .u32 ((rd_T24 y110 (ji26)).f1)) := hcc31 1 _ rfl
                              have hf31_0 : World.frozen? _ ⟨go30, ((ji26) : Int).toNat * 2, none⟩ = false := hfr31 0
                              have hf31_1 : World.frozen? _ ⟨go30, ((ji26) : Int).toNat * 2 + 1, none⟩ = false := hfr31 1
                              clear hcl31 hcc31 hfr31 hM31
                              replace p31 := eq_true p31
                              replace q31 := eq_true q31
                              obtain ⟨ce35, hcl35, hM35, hcc35, hfr35⟩ := Kd.R_elem HQ34.out z24 ((ji26) : Int) (of_decide_eq_true (by first | (with_reducible assumption) | assumption)) (by have h_ : ((ji26) : Int) < ((x3_3.length : Int) : Int) := of_decide_eq_true (by first | (with_reducible assumption) | assumption); first | exact h_ | (have e_ := (Kd.R_reads' HO_3.out).1; omega) | simpa using h_)
                              obtain rfl := k24_openM hM35
                              have HP35 := (Kd.R_seg HQ34.out ((ji26) : Int) (of_decide_eq_true (by first | (with_reducible assumption) | assumption)) (by have h_ : ((ji26) : Int) < ((x3_3.length : Int) : Int) := of_decide_eq_true (by first | (with_reducible assumption) | assumption); first | exact h_ | (have e_ := (Kd.R_reads' HO_3.out).1; omega) | simpa using h_) (seg := [.int .u32 ((rd_T24 x3_3 x9_3).f0), .int .u32 ((rd_T24 x3_3 x9_3).f1)]) (j := 0) hcl35 hcc35 (show 2 ≤ 2 from by decide) (x' := (⟨(rd_T24 x3_3 x9_3).f0, (rd_T24 x3_3 x9_3).f1⟩ : S24)) (k24_mkM _ _ _ (⟨(rd_T24 x3_3 x9_3).f0, (rd_T24 x3_3 x9_3).f1⟩ : S24) ) (fun _ hk => hk)).1
                              rw [← Ny111.out] at HP35
                              have HQ35 := Aside0.mk HP35
                              clear hcl35 hcc35 hfr35 hM35 HP35
                              have hne1_ : ¬ (ji26.toNat = x9_3.toNat) := by have a1 : 0 ≤ x9_3 := of_decide_eq_true (by first | (with_reducible assumption) | assumption); have a2 : 0 ≤ ji26 := of_decide_eq_true (by first | (with_reducible assumption) | assumption); have a3 := hji26; unfold wrap64 at a3; omega
                              have hne2_ : ¬ (x9_3.toNat = ji26.toNat) := fun e_ => hne1_ e_.symm
                              obtain ⟨ceX_, hclX_, hMX_, hccX_, hfrX_⟩ := Kd.R_elem HO_3.out z24 (ji26 : Int) (of_decide_eq_true (by first | (with_reducible assumption) | assumption)) (show (ji26 : Int) < ((x3_3.length : Int) : Int) from of_decide_eq_true (by first | (with_reducible assumption) | assumption))
                              have hfz0_ : World.frozen? _ ⟨go30, (ji26 : Int).toNat * 2, none⟩ = false := hfrX_ 0
                              have hfz1_ : World.frozen? _ ⟨go30, (ji26 : Int).toNat * 2 + 1, none⟩ = false := hfrX_ 1
                              clear hclX_ hMX_ hccX_ hfrX_
                              refine start_ (n := 18) (S := fun w' => w'.cell? ⟨go30, (((ji26)).toNat * 2), none⟩ = some (.int .u32 ((rd_T24 x3_3 (ji26)).f0)) ∧ w'.cell? ⟨go30, (((ji26)).toNat * 2) + 1, none⟩ = some (.int .u32 ((rd_T24 x3_3 (ji26)).f1)) ∧ w'.cell? ⟨go30, ((x9_3).toNat * 2), none⟩ = some (.int .u32 ((rd_T24 x3_3 x9_3).f0)) ∧ w'.cell? ⟨go30, ((x9_3).toNat * 2) + 1, none⟩ = some (.int .u32 ((rd_T24 x3_3 x9_3).f1))) (ds := [15, 17]) #[false, false, false, false, false, false, false, false, false, false, false, false, false, false, false, false, false, false] (by kernel_rfl) rfl rfl ⟨hx108_0, hx108_1, hx109_0, hx109_1⟩ (fun hHeld => ?_); refine with_tabW spec_Set9.tab20 spec_Set9.bits20 (fun HT_ HW_ => ?_)
                              generalize w32.drew = w33 at hfz0_ hfz1_ HO_3 HB GG30 HQ34 HQ35 hf30_0 hf30_1 hf31_0 hf31_1 hx106_0 hx106_1 hx107_0 hx107_1 hx108_0 hx108_1 hx109_0 hx109_1 hx30_0 hx30_1 hx31_0 hx31_1 hHeld ⊢
                              refine pure_ (i := 0) (N := some 70) (v := ?_) (a' := ?_) #[true, false, false, false, false, false, false, false, false, false, false, false, false, false, false, false, false, false] rfl rfl (any_of HT_.out (by kernel_rfl)) (fun _ _ _ h => h) (Or.inl ⟨by rfl, ?_⟩) ?_ ?_
                              rotate_left
                              · intro w'
                                go_simp
                                with_reducible rfl
                              rotate_left
                              · simp only [Act.put, List.setIfInBounds_toArray, List.set_cons_zero, List.set_cons_succ, i64_w, i32_w]
                                rfl
                              refine pure_ (i := 1) (N := some 71) (v := ?_) (a' := ?_) #[true, true, false, false, false, false, false, false, false, false, false, false, false, false, false, false, false, false] rfl rfl (any_of HT_.out (by kernel_rfl)) (fun _ _ _ h => h) (Or.inl ⟨by rfl, ?_⟩) ?_ ?_
                              rotate_left
                              · intro w'
                                go_simp
                                with_reducible rfl
                              rotate_left
                              · simp only [Act.put, List.setIfInBounds_toArray, List.set_cons_zero, List.set_cons_succ, i64_w, i32_w]
                                rfl
                              refine pure_ (i := 2) (N := some 72) (v := ?_) (a' := ?_) #[true, true, true, false, false, false, false, false, false, false, false, false, false, false, false, false, false, false] rfl rfl (any_of HT_.out (by kernel_rfl)) (fun _ _ _ h => h) (Or.inl ⟨by rfl, ?_⟩) ?_ ?_
                              rotate_left
                              · intro w'
                                go_simp
                                with_reducible rfl
                              rotate_left
                              · simp only [Act.put, List.setIfInBounds_toArray, List.set_cons_zero, List.set_cons_succ, i64_w, i32_w]
                                rfl
                              refine pure_ (i := 3) (N := some 73) (v := ?_) (a' := ?_) #[true, true, true, true, false, false, false, false, false, false, false, false, false, false, false, false, false, false] rfl rfl (any_of HT_.out (by kernel_rfl)) (fun _ _ _ h => h) (Or.inl ⟨by rfl, ?_⟩) ?_ ?_
                              rotate_left
                              · intro w'
                                go_simp
                                with_reducible rfl
                              rotate_left
                              · simp only [Act.put, List.setIfInBounds_toArray, List.set_cons_zero, List.set_cons_succ, i64_w, i32_w]
                                rfl
                              refine pure_ (i := 4) (N := some 74) (v := ?_) (a' := ?_) #[true, true, true, true, true, false, false, false, false, false, false, false, false, false, false, false, false, false] rfl rfl (any_of HT_.out (by kernel_rfl)) (fun _ _ _ h => h) (Or.inl ⟨by rfl, ?_⟩) ?_ ?_
                              rotate_left
                              · intro w'
                                go_simp
                                with_reducible rfl
                              rotate_left
                              · simp only [Act.put, List.setIfInBounds_toArray, List.set_cons_zero, List.set_cons_succ, i64_w, i32_w]
                                rfl
                              refine pure_ (i := 5) (N := some 75) (v := ?_) (a' := ?_) #[true, true, true, true, true, true, false, false, false, false, false, false, false, false, false, false, false, false] rfl rfl (any_of HT_.out (by kernel_rfl)) (fun _ _ _ h => h) (Or.inl ⟨by rfl, ?_⟩) ?_ ?_
                              rotate_left
                              · intro w'
                                go_simp
                                with_reducible rfl
                              rotate_left
                              · simp only [Act.put, List.setIfInBounds_toArray, List.set_cons_zero, List.set_cons_succ, i64_w, i32_w]
                                rfl
                              refine pure_ (i := 6) (N := some 76) (v := ?_) (a' := ?_) #[true, true, true, true, true, true, true, false, false, false, false, false, false, false, false, false, false, false] rfl rfl (any_of HT_.out (by kernel_rfl)) (fun _ _ _ h => h) (Or.inl ⟨by rfl, ?_⟩) ?_ ?_
                              rotate_left
                              · intro w'
                                go_simp
                                with_reducible rfl
                              rotate_left
                              · simp only [Act.put, List.setIfInBounds_toArray, List.set_cons_zero, List.set_cons_succ, i64_w, i32_w]
                                rfl
                              refine pure_ (i := 7) (N := some 77) (v := ?_) (a' := ?_) #[true, true, true, true, true, true, true, true, false, false, false, false, false, false, false, false, false, false] rfl rfl (any_of HT_.out (by kernel_rfl)) (fun _ _ _ h => h) (Or.inl ⟨by rfl, ?_⟩) ?_ ?_
                              rotate_left
                              · intro w'
                                go_simp
                                with_reducible rfl
                              rotate_left
                              · simp only [Act.put, List.setIfInBounds_toArray, List.set_cons_zero, List.set_cons_succ, i64_w, i32_w]
                                rfl
                              refine pure_ (i := 8) (N := some 78) (v := ?_) (a' := ?_) #[true, true, true, true, true, true, true, true, true, false, false, false, false, false, false, false, false, false] rfl rfl (any_of HT_.out (by kernel_rfl)) (fun _ _ _ h => h) (Or.inl ⟨by rfl, ?_⟩) ?_ ?_
                              rotate_left
                              · intro w'
                                go_simp
                                with_reducible rfl
                              rotate_left
                              · simp only [Act.put, List.setIfInBounds_toArray, List.set_cons_zero, List.set_cons_succ, i64_w, i32_w]
                                rfl
                              refine pure_ (i := 10) (N := some 80) (v := ?_) (a' := ?_) #[true, true, true, true, true, true, true, true, true, false, true, false, false, false, false, false, false, false] rfl rfl (any_of HT_.out (by kernel_rfl)) (fun _ _ _ h => h) (Or.inl ⟨by rfl, ?_⟩) ?_ ?_
                              rotate_left
                              · intro w'
                                go_simp
                                with_reducible rfl
                              rotate_left
                              · simp only [Act.put, List.setIfInBounds_toArray, List.set_cons_zero, List.set_cons_succ, i64_w, i32_w]
                                rfl
                              refine pure_ (i := 11) (N := some 81) (v := ?_) (a' := ?_) #[true, true, true, true, true, true, true, true, true, false, true, true, false, false, false, false, false, false] rfl rfl (any_of HT_.out (by kernel_rfl)) (fun _ _ _ h => h) (Or.inl ⟨by rfl, ?_⟩) ?_ ?_
                              rotate_left
                              · intro w'
                                go_simp
                                with_reducible rfl
                              rotate_left
                              · simp only [Act.put, List.setIfInBounds_toArray, List.set_cons_zero, List.set_cons_succ, i64_w, i32_w]
                                rfl
                              refine pure_ (i := 12) (N := some 82) (v := ?_) (a' := ?_) #[true, true, true, true, true, true, true, true, true, false, true, true, true, false, false, false, false, false] rfl rfl (any_of HT_.out (by kernel_rfl)) (fun _ _ _ h => h) (Or.inl ⟨by rfl, ?_⟩) ?_ ?_
                              rotate_left
                              · intro w'
                                go_simp
                                with_reducible rfl
                              rotate_left
                              · simp only [Act.put, List.setIfInBounds_toArray, List.set_cons_zero, List.set_cons_succ, i64_w, i32_w]
                                rfl
                              refine take_ (i := 9) (N := some 79) (v := ?_) (a' := ?_) #[true, true, true, true, true, true, true, true, true, true, true, true, true, false, false, false, false, false] rfl rfl (take_ofW HT_.out HW_.out (by kernel_rfl)) (fun _ _ _ h => h) (Or.inl ⟨by rfl, ?_⟩) hHeld ?_ ?_
                              rotate_left
                              · rintro w' ⟨s0, s1, s2, s3⟩
                                go_simp
                                with_reducible rfl
                              rotate_left
                              · simp only [Act.put, List.setIfInBounds_toArray, List.set_cons_zero, List.set_cons_succ, i64_w, i32_w]
                                rfl
                              refine take_ (i := 13) (N := some 83) (v := ?_) (a' := ?_) #[true, true, true, true, true, true, true, true, true, true, true, true, true, true, false, false, false, false] rfl rfl (take_ofW HT_.out HW_.out (by kernel_rfl)) (fun _ _ _ h => h) (Or.inl ⟨by rfl, ?_⟩) hHeld ?_ ?_
                              rotate_left
                              · rintro w' ⟨s0, s1, s2, s3⟩
                                go_simp
                                with_reducible rfl
                              rotate_left
                              · simp only [Act.put, List.setIfInBounds_toArray, List.set_cons_zero, List.set_cons_succ, i64_w, i32_w]
                                rfl
                              refine pure_ (i := 14) (N := some 84) (v := ?_) (a' := ?_) #[true, true, true, true, true, true, true, true, true, true, true, true, true, true, true, false, false, false] rfl rfl (any_of HT_.out (by kernel_rfl)) (fun _ _ _ h => h) (Or.inl ⟨by rfl, ?_⟩) ?_ ?_
                              rotate_left
                              · intro w'
                                go_simp
                                with_reducible rfl
                              rotate_left
                              · simp only [Act.put, List.setIfInBounds_toArray, List.set_cons_zero, List.set_cons_succ, i64_w, i32_w]
                                rfl
                              refine last_ (i := 15) (N := none) #[true, true, true, true, true, true, true, true, true, true, true, true, true, true, true, true, false, false] rfl rfl (one_of HT_.out (by kernel_rfl)) (by decide) (fun K hK => ?_)
                              refine skip_ (w1 := ?_) (by rfl) rfl ?_ ?_
                              rotate_left
                              · go_simp
                                rfl
                              refine hK.out _ _ ?_
                              clear hK K
                              refine pure_ (i := 16) (N := some 85) (v := ?_) (a' := ?_) #[true, true, true, true, true, true, true, true, true, true, true, true, true, true, true, true, true, false] rfl rfl (any_of HT_.out (by kernel_rfl)) (fun _ _ _ h => h) (Or.inl ⟨by rfl, ?_⟩) ?_ ?_
                              rotate_left
                              · intro w'
                                go_simp
                                with_reducible rfl
                              rotate_left
                              · simp only [Act.put, List.setIfInBounds_toArray, List.set_cons_zero, List.set_cons_succ, i64_w, i32_w]
                                rfl
                              refine last_ (i := 17) (N := none) #[true, true, true, true, true, true, true, true, true, true, true, true, true, true, true, true, true, true] rfl rfl (one_of HT_.out (by kernel_rfl)) (by decide) (fun K hK => ?_)
                              refine skip_ (w1 := ?_) (by rfl) rfl ?_ ?_
                              rotate_left
                              · go_simp
                                rfl
                              refine hK.out _ _ ?_
                              clear hK K
                              refine done_ (done_of HT_.out (by kernel_rfl)) ?_
                              try go_wp2
                              (try simp only [← hl3_3])
                              go_roundg k3
                              case measure => have := HK1.out; have := HK2.out; have := HK3.out; omega
                              case rel => exact ⟨(y111), (ji26), (by first | rfl | (simp; done) | (simp only [← hji26] <;> (first | rfl | simp)) | (simp [*]; done)), (by first | exact H' | (rw [hji26]; exact H') | (simp only [hji26]; exact H')), ⟨by have := HK1.out; have := HK2.out; have := HK3.out; omega⟩, ⟨by (try simp only [hl3_2]); (try simp only [hl3_3]); (with_reducible repeat (first | apply Kd.R_alloc | apply Kd.R_drewN | apply Kd.R_drew)); exact HQ35.out⟩, ⟨by repeat (first | (with_reducible first | exact HB.out | apply below_alloc | apply pw_below_drewN | apply below_drew1 | refine below_set ?_ GB30.out | refine below_set ?_ GB30.out | refine below_set ?_ GB30.out | refine below_set ?_ GB30.out) | exact HB.out)⟩⟩
                            · rw [if_neg c29] at H
                              have c29b0 : decide (((rd_T24 x3_3 x9_3).f0) < ((rd_T24 x3_3 (ji26)).f0)) = false := decide_eq_false c29
                              clear c29
                              have H' := Aside0.mk H
                              clear H
                              try go_wp2
                              have n0_ := Aside0.mk (Kd.R_drew HO_3.out)
                              have n1_ := Aside0.mk (below_drew1 HB.out)
                              clear HO_3
                              clear HB
                              have HO_3 := n0_
                              have HB := n1_
                              clear n0_ n1_
                              have p106 : 0 ≤ (x9_3 : Int) := of_decide_eq_true (by first | (with_reducible assumption) | assumption)
                              have q106 : x9_3 < (x3_3.length : Int) := of_decide_eq_true (by first | (with_reducible assumption) | assumption)
                              obtain ⟨ad106, e106, hx106_0, hx106_1⟩ := at_T24 (Kd.R_reads' HO_3.out).2.2 x9_3 p106 q106
                              cases e106
                              replace p106 := eq_true p106
                              replace q106 := eq_true q106
                              have p107 : 0 ≤ ((ji26) : Int) := of_decide_eq_true (by first | (with_reducible assumption) | assumption)
                              have q107 : (ji26) < (x3_3.length : Int) := of_decide_eq_true (by first | (with_reducible assumption) | assumption)
                              obtain ⟨ad107, e107, hx107_0, hx107_1⟩ := at_T24 (Kd.R_reads' HO_3.out).2.2 (ji26) p107 q107
                              obtain rfl : ad106 = ad107 := (by injection e107)
                              replace p107 := eq_true p107
                              replace q107 := eq_true q107
                              refine start_ (n := 16) (S := fun w' => w'.cell? (ad106.add ((x9_3).toNat * 2)) = some (.int .u32 ((rd_T24 x3_3 x9_3).f0)) ∧ w'.cell? ⟨(ad106.add ((x9_3).toNat * 2)).block, (ad106.add ((x9_3).toNat * 2)).off + 1, none⟩ = some (.int .u32 ((rd_T24 x3_3 x9_3).f1)) ∧ w'.cell? (ad106.add (((ji26)).toNat * 2)) = some (.int .u32 ((rd_T24 x3_3 (ji26)).f0)) ∧ w'.cell? ⟨(ad106.add (((ji26)).toNat * 2)).block, (ad106.add (((ji26)).toNat * 2)).off + 1, none⟩ = some (.int .u32 ((rd_T24 x3_3 (ji26)).f1))) (ds := []) #[false, false, false, false, false, false, false, false, false, false, false, false, false, false, false, false] (by kernel_rfl) rfl rfl ⟨hx106_0, hx106_1, hx107_0, hx107_1⟩ (fun hHeld => ?_); refine with_tabW spec_Set9.tab18 spec_Set9.bits18 (fun HT_ HW_ => ?_)
                              generalize wr.drew = w36 at HO_3 HB hx106_0 hx106_1 hx107_0 hx107_1 hHeld ⊢
                              refine pure_ (i := 0) (N := some 52) (v := ?_) (a' := ?_) #[true, false, false, false, false, false, false, false, false, false, false, false, false, false, false, false] rfl rfl (any_of HT_.out (by kernel_rfl)) (fun _ _ _ h => h) (Or.inl ⟨by rfl, ?_⟩) ?_ ?_
                              rotate_left
                              · intro w'
                                go_simp
                                with_reducible rfl
                              rotate_left
                              · simp only [Act.put, List.setIfInBounds_toArray, List.set_cons_zero, List.set_cons_succ, i64_w, i32_w]
                                rfl
                              refine pure_ (i := 1) (N := some 53) (v := ?_) (a' := ?_) #[true, true, false, false, false, false, false, false, false, false, false, false, false, false, false, false] rfl rfl (any_of HT_.out (by kernel_rfl)) (fun _ _ _ h => h) (Or.inl ⟨by rfl, ?_⟩) ?_ ?_
                              rotate_left
                              · intro w'
                                go_simp
                                with_reducible rfl
                              rotate_left
                              · simp only [Act.put, List.setIfInBounds_toArray, List.set_cons_zero, List.set_cons_succ, i64_w, i32_w]
                                rfl
                              refine pure_ (i := 2) (N := some 54) (v := ?_) (a' := ?_) #[true, true, true, false, false, false, false, false, false, false, false, false, false, false, false, false] rfl rfl (any_of HT_.out (by kernel_rfl)) (fun _ _ _ h => h) (Or.inl ⟨by rfl, ?_⟩) ?_ ?_
                              rotate_left
                              · intro w'
                                go_simp
                                with_reducible rfl
                              rotate_left
                              · simp only [Act.put, List.setIfInBounds_toArray, List.set_cons_zero, List.set_cons_succ, i64_w, i32_w]
                                rfl
                              refine pure_ (i := 3) (N := some 55) (v := ?_) (a' := ?_) #[true, true, true, true, false, false, false, false, false, false, false, false, false, false, false, false] rfl rfl (any_of HT_.out (by kernel_rfl)) (fun _ _ _ h => h) (Or.inl ⟨by rfl, ?_⟩) ?_ ?_
                              rotate_left
                              · intro w'
                                go_simp
                                with_reducible rfl
                              rotate_left
                              · simp only [Act.put, List.setIfInBounds_toArray, List.set_cons_zero, List.set_cons_succ, i64_w, i32_w]
                                rfl
                              refine pure_ (i := 4) (N := some 56) (v := ?_) (a' := ?_) #[true, true, true, true, true, false, false, false, false, false, false, false, false, false, false, false] rfl rfl (any_of HT_.out (by kernel_rfl)) (fun _ _ _ h => h) (Or.inl ⟨by rfl, ?_⟩) ?_ ?_
                              rotate_left
                              · intro w'
                                go_simp
                                with_reducible rfl
                              rotate_left
                              · simp only [Act.put, List.setIfInBounds_toArray, List.set_cons_zero, List.set_cons_succ, i64_w, i32_w]
                                rfl
                              refine pure_ (i := 5) (N := some 57) (v := ?_) (a' := ?_) #[true, true, true, true, true, true, false, false, false, false, false, false, false, false, false, false] rfl rfl (any_of HT_.out (by kernel_rfl)) (fun _ _ _ h => h) (Or.inl ⟨by rfl, ?_⟩) ?_ ?_
                              rotate_left
                              · intro w'
                                go_simp
                                with_reducible rfl
                              rotate_left
                              · simp only [Act.put, List.setIfInBounds_toArray, List.set_cons_zero, List.set_cons_succ, i64_w, i32_w]
                                rfl
                              refine pure_ (i := 6) (N := some 58) (v := ?_) (a' := ?_) #[true, true, true, true, true, true, true, false, false, false, false, false, false, false, false, false] rfl rfl (any_of HT_.out (by kernel_rfl)) (fun _ _ _ h => h) (Or.inl ⟨by rfl, ?_⟩) ?_ ?_
                              rotate_left
                              · intro w'
                                go_simp
                                with_reducible rfl
                              rotate_left
                              · simp only [Act.put, List.setIfInBounds_toArray, List.set_cons_zero, List.set_cons_succ, i64_w, i32_w]
                                rfl
                              refine pure_ (i := 8) (N := some 60) (v := ?_) (a' := ?_) #[true, true, true, true, true, true, true, false, true, false, false, false, false, false, false, false] rfl rfl (any_of HT_.out (by kernel_rfl)) (fun _ _ _ h => h) (Or.inl ⟨by rfl, ?_⟩) ?_ ?_
                              rotate_left
                              · intro w'
                                go_simp
                                with_reducible rfl
                              rotate_left
                              · simp only [Act.put, List.setIfInBounds_toArray, List.set_cons_zero, List.set_cons_succ, i64_w, i32_w]
                                rfl
                              refine pure_ (i := 9) (N := some 61) (v := ?_) (a' := ?_) #[true, true, true, true, true, true, true, false, true, true, false, false, false, false, false, false] rfl rfl (any_of HT_.out (by kernel_rfl)) (fun _ _ _ h => h) (Or.inl ⟨by rfl, ?_⟩) ?_ ?_
                              rotate_left
                              · intro w'
                                go_simp
                                with_reducible rfl
                              rotate_left
                              · simp only [Act.put, List.setIfInBounds_toArray, List.set_cons_zero, List.set_cons_succ, i64_w, i32_w]
                                rfl
                              refine pure_ (i := 10) (N := some 62) (v := ?_) (a' := ?_) #[true, true, true, true, true, true, true, false, true, true, true, false, false, false, false, false] rfl rfl (any_of HT_.out (by kernel_rfl)) (fun _ _ _ h => h) (Or.inl ⟨by rfl, ?_⟩) ?_ ?_
                              rotate_left
                              · intro w'
                                go_simp
                                with_reducible rfl
                              rotate_left
                              · simp only [Act.put, List.setIfInBounds_toArray, List.set_cons_zero, List.set_cons_succ, i64_w, i32_w]
                                rfl
                              refine pure_ (i := 11) (N := some 63) (v := ?_) (a' := ?_) #[true, true, true, true, true, true, true, false, true, true, true, true, false, false, false, false] rfl rfl (any_of HT_.out (by kernel_rfl)) (fun _ _ _ h => h) (Or.inl ⟨by rfl, ?_⟩) ?_ ?_
                              rotate_left
                              · intro w'
                                go_simp
                                with_reducible rfl
                              rotate_left
                              · simp only [Act.put, List.setIfInBounds_toArray, List.set_cons_zero, List.set_cons_succ, i64_w, i32_w]
                                rfl
                              refine pure_ (i := 12) (N := some 64) (v := ?_) (a' := ?_) #[true, true, true, true, true, true, true, false, true, true, true, true, true, false, false, false] rfl rfl (any_of HT_.out (by kernel_rfl)) (fun _ _ _ h => h) (Or.inl ⟨by rfl, ?_⟩) ?_ ?_
                              rotate_left
                              · intro w'
                                go_simp
                                with_reducible rfl
                              rotate_left
                              · simp only [Act.put, List.setIfInBounds_toArray, List.set_cons_zero, List.set_cons_succ, i64_w, i32_w]
                                rfl
                              refine take_ (i := 7) (N := some 59) (v := ?_) (a' := ?_) #[true, true, true, true, true, true, true, true, true, true, true, true, true, false, false, false] rfl rfl (take_ofW HT_.out HW_.out (by kernel_rfl)) (fun _ _ _ h => h) (Or.inl ⟨by rfl, ?_⟩) hHeld ?_ ?_
                              rotate_left
                              · rintro w' ⟨s0, s1, s2, s3⟩
                                go_simp
                                with_reducible rfl
                              rotate_left
                              · simp only [Act.put, List.setIfInBounds_toArray, List.set_cons_zero, List.set_cons_succ, i64_w, i32_w]
                                rfl
                              refine take_ (i := 13) (N := some 65) (v := ?_) (a' := ?_) #[true, true, true, true, true, true, true, true, true, true, true, true, true, true, false, false] rfl rfl (take_ofW HT_.out HW_.out (by kernel_rfl)) (fun _ _ _ h => h) (Or.inl ⟨by rfl, ?_⟩) hHeld ?_ ?_
                              rotate_left
                              · rintro w' ⟨s0, s1, s2, s3⟩
                                go_simp
                                with_reducible rfl
                              rotate_left
                              · simp only [Act.put, List.setIfInBounds_toArray, List.set_cons_zero, List.set_cons_succ, i64_w, i32_w]
                                rfl
                              refine pure_ (i := 14) (N := some 66) (v := ?_) (a' := ?_) #[true, true, true, true, true, true, true, true, true, true, true, true, true, true, true, false] rfl rfl (any_of HT_.out (by kernel_rfl)) (fun _ _ _ h => h) (Or.inl ⟨by rfl, ?_⟩) ?_ ?_
                              rotate_left
                              · intro w'
                                go_simp
                                with_reducible rfl
                              rotate_left
                              · simp only [Act.put, List.setIfInBounds_toArray, List.set_cons_zero, List.set_cons_succ, i64_w, i32_w]
                                rfl
                              refine pure_ (i := 15) (N := some 67) (v := ?_) (a' := ?_) #[true, true, true, true, true, true, true, true, true, true, true, true, true, true, true, true] rfl rfl (any_of HT_.out (by kernel_rfl)) (fun _ _ _ h => h) (Or.inl ⟨by rfl, ?_⟩) ?_ ?_
                              rotate_left
                              · intro w'
                                go_simp
                                with_reducible rfl
                              rotate_left
                              · simp only [Act.put, List.setIfInBounds_toArray, List.set_cons_zero, List.set_cons_succ, i64_w, i32_w]
                                rfl
                              refine done_ (done_of HT_.out (by kernel_rfl)) ?_
                              try go_wp2
                              (try simp only [← hl3_2, ← hl3_3])
                              go_roundg k3
                              case measure => have := HK1.out; have := HK2.out; have := HK3.out; omega
                              case rel => exact ⟨(x3_3), (wrap64 (x48_2 + 1)), (by first | rfl | (simp; done) | (simp [*]; done)), (by first | exact H' | (rw [hji26]; exact H') | (simp only [hji26]; exact H')), ⟨by have := HK1.out; have := HK2.out; have := HK3.out; omega⟩, ⟨by (try simp only [hl3_2]); (try simp only [hl3_3]); (with_reducible repeat (first | apply Kd.R_alloc | apply Kd.R_drewN | apply Kd.R_drew)); exact HO_3.out⟩, ⟨by repeat (first | (with_reducible first | exact HB.out | apply below_alloc | apply pw_below_drewN | apply below_drew1) | exact HB.out)⟩⟩
                          · rw [if_neg c28] at H
                            exact absurd H (by simp)
                        · rw [if_neg c27] at H
                          exact absurd H (by simp)
                      · rw [if_neg c25] at H
                        exact absurd H (by simp)
                    · rw [if_neg c24] at H
                      exact absurd H (by simp)
                  · rw [if_neg c23] at H
                    have c23b0 : decide (0 < x9_3) = false := decide_eq_false c23
                    clear c23
                    have H' := Aside0.mk H
                    clear H
                    try go_wp2
                    have n0_ := Aside0.mk (Kd.R_drew HO_3.out)
                    have n1_ := Aside0.mk (below_drew1 HB.out)
                    clear HO_3
                    clear HB
                    have HO_3 := n0_
                    have HB := n1_
                    clear n0_ n1_
                    refine start_ (n := 16) (S := fun w' => True) (ds := []) #[false, false, false, false, false, false, false, false, false, false, false, false, false, false, false, false] (by kernel_rfl) rfl rfl trivial (fun hHeld => ?_); refine with_tabW spec_Set9.tab18 spec_Set9.bits18 (fun HT_ HW_ => ?_)
                    generalize wr.drew = w37 at HO_3 HB hHeld ⊢
                    refine pure_ (i := 0) (N := some 52) (v := ?_) (a' := ?_) #[true, false, false, false, false, false, false, false, false, false, false, false, false, false, false, false] rfl rfl (any_of HT_.out (by kernel_rfl)) (fun _ _ _ h => h) (Or.inl ⟨by rfl, ?_⟩) ?_ ?_
                    rotate_left
                    · intro w'
                      go_simp
                      with_reducible rfl
                    rotate_left
                    · simp only [Act.put, List.setIfInBounds_toArray, List.set_cons_zero, List.set_cons_succ, i64_w, i32_w]
                      rfl
                    refine pure_ (i := 1) (N := some 53) (v := ?_) (a' := ?_) #[true, true, false, false, false, false, false, false, false, false, false, false, false, false, false, false] rfl rfl (any_of HT_.out (by kernel_rfl)) (fun _ _ _ h => h) (Or.inl ⟨by rfl, ?_⟩) ?_ ?_
                    rotate_left
                    · intro w'
                      go_simp
                      with_reducible rfl
                    rotate_left
                    · simp only [Act.put, List.setIfInBounds_toArray, List.set_cons_zero, List.set_cons_succ, i64_w, i32_w]
                      rfl
                    refine pure_ (i := 2) (N := some 54) (v := ?_) (a' := ?_) #[true, true, true, false, false, false, false, false, false, false, false, false, false, false, false, false] rfl rfl (any_of HT_.out (by kernel_rfl)) (fun _ _ _ h => h) (Or.inl ⟨by rfl, ?_⟩) ?_ ?_
                    rotate_left
                    · intro w'
                      go_simp
                      with_reducible rfl
                    rotate_left
                    · simp only [Act.put, List.setIfInBounds_toArray, List.set_cons_zero, List.set_cons_succ, i64_w, i32_w]
                      rfl
                    refine pure_ (i := 3) (N := some 55) (v := undef) (a' := ?_) #[true, true, true, true, false, false, false, false, false, false, false, false, false, false, false, false] rfl rfl (any_of HT_.out (by kernel_rfl)) (fun _ _ _ h => h) (Or.inr ⟨by rfl, rfl⟩) ?_ ?_
                    rotate_left
                    · simp only [Act.put, List.setIfInBounds_toArray, List.set_cons_zero, List.set_cons_succ, i64_w, i32_w]
                      rfl
                    refine pure_ (i := 4) (N := some 56) (v := undef) (a' := ?_) #[true, true, true, true, true, false, false, false, false, false, false, false, false, false, false, false] rfl rfl (any_of HT_.out (by kernel_rfl)) (fun _ _ _ h => h) (Or.inr ⟨by rfl, rfl⟩) ?_ ?_
                    rotate_left
                    · simp only [Act.put, List.setIfInBounds_toArray, List.set_cons_zero, List.set_cons_succ, i64_w, i32_w]
                      rfl
                    refine pure_ (i := 5) (N := some 57) (v := undef) (a' := ?_) #[true, true, true, true, true, true, false, false, false, false, false, false, false, false, false, false] rfl rfl (any_of HT_.out (by kernel_rfl)) (fun _ _ _ h => h) (Or.inr ⟨by rfl, rfl⟩) ?_ ?_
                    rotate_left
                    · simp only [Act.put, List.setIfInBounds_toArray, List.set_cons_zero, List.set_cons_succ, i64_w, i32_w]
                      rfl
                    refine pure_ (i := 6) (N := some 58) (v := undef) (a' := ?_) #[true, true, true, true, true, true, true, false, false, false, false, false, false, false, false, false] rfl rfl (any_of HT_.out (by kernel_rfl)) (fun _ _ _ h => h) (Or.inr ⟨by rfl, rfl⟩) ?_ ?_
                    rotate_left
                    · simp only [Act.put, List.setIfInBounds_toArray, List.set_cons_zero, List.set_cons_succ, i64_w, i32_w]
                      rfl
                    refine pure_ (i := 7) (N := some 59) (v := undef) (a' := ?_) #[true, true, true, true, true, true, true, true, false, false, false, false, false, false, false, false] rfl rfl (any_of HT_.out (by kernel_rfl)) (fun _ _ _ h => h) (Or.inr ⟨by rfl, rfl⟩) ?_ ?_
                    rotate_left
                    · simp only [Act.put, List.setIfInBounds_toArray, List.set_cons_zero, List.set_cons_succ, i64_w, i32_w]
                      rfl
                    refine pure_ (i := 8) (N := some 60) (v := undef) (a' := ?_) #[true, true, true, true, true, true, true, true, true, false, false, false, false, false, false, false] rfl rfl (any_of HT_.out (by kernel_rfl)) (fun _ _ _ h => h) (Or.inr ⟨by rfl, rfl⟩) ?_ ?_
                    rotate_left
                    · simp only [Act.put, List.setIfInBounds_toArray, List.set_cons_zero, List.set_cons_succ, i64_w, i32_w]
                      rfl
                    refine pure_ (i := 9) (N := some 61) (v := undef) (a' := ?_) #[true, true, true, true, true, true, true, true, true, true, false, false, false, false, false, false] rfl rfl (any_of HT_.out (by kernel_rfl)) (fun _ _ _ h => h) (Or.inr ⟨by rfl, rfl⟩) ?_ ?_
                    rotate_left
                    · simp only [Act.put, List.setIfInBounds_toArray, List.set_cons_zero, List.set_cons_succ, i64_w, i32_w]
                      rfl
                    refine pure_ (i := 10) (N := some 62) (v := undef) (a' := ?_) #[true, true, true, true, true, true, true, true, true, true, true, false, false, false, false, false] rfl rfl (any_of HT_.out (by kernel_rfl)) (fun _ _ _ h => h) (Or.inr ⟨by rfl, rfl⟩) ?_ ?_
                    rotate_left
                    · simp only [Act.put, List.setIfInBounds_toArray, List.set_cons_zero, List.set_cons_succ, i64_w, i32_w]
                      rfl
                    refine pure_ (i := 11) (N := some 63) (v := undef) (a' := ?_) #[true, true, true, true, true, true, true, true, true, true, true, true, false, false, false, false] rfl rfl (any_of HT_.out (by kernel_rfl)) (fun _ _ _ h => h) (Or.inr ⟨by rfl, rfl⟩) ?_ ?_
                    rotate_left
                    · simp only [Act.put, List.setIfInBounds_toArray, List.set_cons_zero, List.set_cons_succ, i64_w, i32_w]
                      rfl
                    refine pure_ (i := 12) (N := some 64) (v := undef) (a' := ?_) #[true, true, true, true, true, true, true, true, true, true, true, true, true, false, false, false] rfl rfl (any_of HT_.out (by kernel_rfl)) (fun _ _ _ h => h) (Or.inr ⟨by rfl, rfl⟩) ?_ ?_
                    rotate_left
                    · simp only [Act.put, List.setIfInBounds_toArray, List.set_cons_zero, List.set_cons_succ, i64_w, i32_w]
                      rfl
                    refine pure_ (i := 13) (N := some 65) (v := undef) (a' := ?_) #[true, true, true, true, true, true, true, true, true, true, true, true, true, true, false, false] rfl rfl (any_of HT_.out (by kernel_rfl)) (fun _ _ _ h => h) (Or.inr ⟨by rfl, rfl⟩) ?_ ?_
                    rotate_left
                    · simp only [Act.put, List.setIfInBounds_toArray, List.set_cons_zero, List.set_cons_succ, i64_w, i32_w]
                      rfl
                    refine pure_ (i := 14) (N := some 66) (v := undef) (a' := ?_) #[true, true, true, true, true, true, true, true, true, true, true, true, true, true, true, false] rfl rfl (any_of HT_.out (by kernel_rfl)) (fun _ _ _ h => h) (Or.inr ⟨by rfl, rfl⟩) ?_ ?_
                    rotate_left
                    · simp only [Act.put, List.setIfInBounds_toArray, List.set_cons_zero, List.set_cons_succ, i64_w, i32_w]
                      rfl
                    refine pure_ (i := 15) (N := some 67) (v := ?_) (a' := ?_) #[true, true, true, true, true, true, true, true, true, true, true, true, true, true, true, true] rfl rfl (any_of HT_.out (by kernel_rfl)) (fun _ _ _ h => h) (Or.inl ⟨by rfl, ?_⟩) ?_ ?_
                    rotate_left
                    · intro w'
                      go_simp
                      with_reducible rfl
                    rotate_left
                    · simp only [Act.put, List.setIfInBounds_toArray, List.set_cons_zero, List.set_cons_succ, i64_w, i32_w]
                      rfl
                    refine done_ (done_of HT_.out (by kernel_rfl)) ?_
                    try go_wp2
                    (try simp only [← hl3_2, ← hl3_3])
                    go_roundg k3
                    case measure => have := HK1.out; have := HK2.out; have := HK3.out; omega
                    case rel => exact ⟨(x3_3), (wrap64 (x48_2 + 1)), (by first | rfl | (simp; done) | (simp [*]; done)), H', ⟨by have := HK1.out; have := HK2.out; have := HK3.out; omega⟩, ⟨by (try simp only [hl3_2]); (try simp only [hl3_3]); (with_reducible repeat (first | apply Kd.R_alloc | apply Kd.R_drewN | apply Kd.R_drew)); exact HO_3.out⟩, ⟨by repeat (first | (with_reducible first | exact HB.out | apply below_alloc | apply pw_below_drewN | apply below_drew1) | exact HB.out)⟩⟩
            · rw [if_neg c22] at H
              have c22b0 : decide (x48_2 < (x3_1.length : Int)) = false := decide_eq_false c22
              try simp only [hl3_2] at c22b0
              clear c22
              have H' := Aside0.mk H
              clear H
              go_wp2
              go_loopg [10, 89] k2 (fun kq v10 v89 w' => ∃ (x3_3 : List (S24)) (x10_3 : List (S24)) (x89_3 : Int), v89 = .int .i64 x89_3 ∧ Aside0 (spec_Set9.l3 kq x3_3 x4_1 x5_1 x10_3 (x3_2.length : Int) x89_3 = some r) ∧ Aside0 (kq ≤ k2) ∧ Aside0 (Kd.R k24 24 w' w.heap.size (fun k_ => some k_ ≠ (v10 : Value).ownBlock) (.slice Ao21 x3_2.length co21) x3_3) ∧ Aside0 (Kd.R k24 24 w' w.heap.size (fun k_ => some k_ ≠ ((.slice Ao21 x3_2.length co21) : Value).ownBlock) v10 x10_3) ∧ Aside0 (Below w.heap.size w w'))
              case atStart => exact ⟨(x3_2), (([] : List (S24))), (0), (by first | rfl | (simp; done) | (simp [*]; done)), H', ⟨Nat.le_refl _⟩, ⟨by (try simp only [hl3_2]); (with_reducible repeat (first | apply Kd.R_alloc | apply Kd.R_drewN | apply Kd.R_drew)); exact Kd.R_mono HO_3.out (fun _ hk => (by simp [Value.ownBlock]))⟩, ⟨by (try simp only [hl3_2]); first | exact Kd.R_nil _ _ _ _ _ | exact Kd.N_nil _ _ _ _ _ | exact Kd.V_nil _ _ _ _ _ | exact Kd.Q_nil _ _ _ _ _ | exact Kd.S_nil _ _ _ _ _⟩, ⟨by repeat (first | (with_reducible first | exact HB.out | apply below_alloc | apply pw_below_drewN | apply below_drew1) | exact HB.out)⟩⟩
              case round =>
                clear H'
                try clear p1
                try clear q1
                try clear hx1
                try clear c2
                try clear p2
                try clear c3
                try clear p3
                try clear q3
                try clear hx3
                try clear hf3
                try clear p6
                try clear p10
                try clear q10
                try clear hx10
                try clear c22
                try clear c22b0
                try clear c23
                try clear c23b0
                try clear c24
                try clear c25
                try clear c27
                try clear c28
                try clear c29
                try clear c29b0
                try clear c30
                try clear p30
                try clear q30
                try clear hx30
                try clear hf30
                try clear c31
                try clear p31
                try clear q31
                try clear hx31
                try clear hf31
                try clear c34
                try clear c35
                try clear hx106_0
                try clear hx106_1
                try clear hx107_0
                try clear hx107_1
                try clear hx108_0
                try clear hx108_1
                try clear hx109_0
                try clear hx109_1
                try clear hx30_0
                try clear hx30_1
                try clear hx31_0
                try clear hx31_1
                try clear p106
                try clear p107
                try clear p108
                try clear p109
                try clear p30
                try clear p31
                try clear q106
                try clear q107
                try clear q108
                try clear q109
                try clear q30
                try clear q31
                obtain ⟨x3_3, x10_3, x89_3, rfl, HA, HK3, HO_3, HO_10, HB⟩ := hrel
                have hl3_3 := (Kd.R_reads' HO_3.out).1
                rw [hl3_3] at HO_3
                (try simp only [hl3_3])
                (try simp only [hl3_3] at HO_10)
                cases gk with
                | zero => exact absurd HA.out (by simp [spec_Set9.l3])
                | succ k3 =>
                  have H := HA.out
                  clear HA
                  simp only [spec_Set9.l3] at H
                  by_cases c38 : x89_3 < (x3_2.length : Int)
                  · rw [if_pos c38] at H
                    have c38b0 : decide (x89_3 < (x3_2.length : Int)) = true := decide_eq_true c38
                    try simp only [hl3_2] at c38b0
                    try simp only [hl3_3] at c38b0
                    clear c38
                    by_cases c39 : (x10_3.length : Int) > 0
                    · rw [if_pos c39] at H
                      have c39b0 : decide (0 < (x10_3.length : Int)) = true := decide_eq_true c39
                      try simp only [hl3_2] at c39b0
                      try simp only [hl3_3] at c39b0
                      have c39b1 : decide (0 < x10_3.length) = true := decide_eq_true (by omega)
                      try simp only [hl3_2] at c39b1
                      try simp only [hl3_3] at c39b1
                      clear c39
                      by_cases c40 : 0 ≤ x89_3
                      · rw [if_pos c40] at H
                        have c40b0 : decide (0 ≤ x89_3) = true := decide_eq_true c40
                        clear c40
                        by_cases c41 : x89_3 < (x3_3.length : Int)
                        · rw [if_pos c41] at H
                          have c41b0 : decide (x89_3 < (x3_3.length : Int)) = true := decide_eq_true c41
                          try simp only [hl3_2] at c41b0
                          try simp only [hl3_3] at c41b0
                          clear c41
                          obtain ⟨ji42, hji42⟩ : ∃ j_ : Int, (wrap64 ((x10_3.length : Int) - 1)) = j_ := ⟨_, rfl⟩
                          replace H : (if 0 ≤ (ji42) then (if (ji42) < (x10_3.length : Int) then (if (IntKind.u64.wrap ((rd_T24 x3_3 x89_3).f0)) ≤ (IntKind.u64.wrap ((IntKind.u64.wrap ((rd_T24 x10_3 (ji42)).f1)) + 1)) then (spec_Set9.l3 k3 x3_3 x4_1 x5_1 (x10_3.set ((ji42) : Int).toNat (⟨(rd_T24 x10_3 (ji42)).f0, mx ((rd_T24 x10_3 (ji42)).f1) ((rd_T24 x3_3 x89_3).f1)⟩ : S24)) (x3_2.length : Int) (wrap64 (x89_3 + 1))) else (if x10_3.length < 17592186044416 then (spec_Set9.l3 k3 x3_3 x4_1 x5_1 (x10_3 ++ [(⟨(rd_T24 x3_3 x89_3).f0, (rd_T24 x3_3 x89_3).f1⟩ : S24)]) (x3_2.length : Int) (wrap64 (x89_3 + 1))) else (none))) else (none)) else (none)) = some r := by first | (rw [hji42] at H; exact H) | (simp only [hji42] at H ⊢; exact H)
                          have hji42w : (IntKind.i64.wrap ((x10_3.length : Int) - 1)) = ji42 := (i64_w _).trans hji42
                          by_cases c43 : 0 ≤ (ji42)
                          · rw [if_pos c43] at H
                            have c43b0 : decide (0 ≤ (ji42)) = true := decide_eq_true c43
                            clear c43
                            by_cases c44 : (ji42) < (x10_3.length : Int)
                            · rw [if_pos c44] at H
                              have c44b0 : decide ((ji42) < (x10_3.length : Int)) = true := decide_eq_true c44
                              try simp only [hl3_2] at c44b0
                              try simp only [hl3_3] at c44b0
                              clear c44
                              by_cases c45 : (IntKind.u64.wrap ((rd_T24 x3_3 x89_3).f0)) ≤ (IntKind.u64.wrap ((IntKind.u64.wrap ((rd_T24 x10_3 (ji42)).f1)) + 1))
                              · rw [if_pos c45] at H
                                have c45b0 : decide ((IntKind.u64.wrap ((rd_T24 x3_3 x89_3).f0)) ≤ (IntKind.u64.wrap ((IntKind.u64.wrap ((rd_T24 x10_3 (ji42)).f1)) + 1))) = true := decide_eq_true c45
                                clear c45
                                obtain ⟨ji46, hji46⟩ : ∃ j_ : Int, (mx ((rd_T24 x10_3 (ji42)).f1) ((rd_T24 x3_3 x89_3).f1)) = j_ := ⟨_, rfl⟩
                                replace H : (spec_Set9.l3 k3 x3_3 x4_1 x5_1 (x10_3.set ((ji42) : Int).toNat (⟨(rd_T24 x10_3 (ji42)).f0, ji46⟩ : S24)) (x3_2.length : Int) (wrap64 (x89_3 + 1))) = some r := by first | (rw [hji46] at H; exact H) | (simp only [hji46] at H ⊢; exact H)
                                have hji46_ : (if ((rd_T24 x10_3 (ji42)).f1) < ((rd_T24 x3_3 x89_3).f1) then ((rd_T24 x3_3 x89_3).f1) else ((rd_T24 x10_3 (ji42)).f1)) = ji46 := hji46
                                obtain ⟨y116, hy116⟩ : ∃ y_ : List (S24), y_ = (x10_3.set ((ji42) : Int).toNat (⟨(rd_T24 x10_3 (ji42)).f0, ji46⟩ : S24)) := ⟨_, rfl⟩
                                replace H : (spec_Set9.l3 k3 x3_3 x4_1 x5_1 y116 (x3_2.length : Int) (wrap64 (x89_3 + 1))) = some r := by first | (rw [hy116]; with_reducible exact H) | (have H2_ := (Option.bind_some _ _).symm.trans H; rw [hy116]; with_reducible exact H2_) | (have H2_ := (Option.bind_some _ _).symm.trans H; with_reducible exact H2_) | with_reducible exact H | (rw [hy116]; exact H) | exact H
                                have Ny116 := Aside0.mk hy116
                                clear hy116
                                have H' := Aside0.mk H
                                clear H
                                obtain ⟨Ao48, co48, eo48⟩ := Kd.R_slice HO_10.out
                                subst eo48
                                try go_wp2
                                have n0_ := Aside0.mk (Kd.R_drew HO_3.out)
                                have n1_ := Aside0.mk (Kd.R_drew HO_10.out)
                                have n2_ := Aside0.mk (below_drew1 HB.out)
                                clear HO_3
                                clear HO_10
                                clear HB
                                have HO_3 := n0_
                                have HO_10 := n1_
                                have HB := n2_
                                clear n0_ n1_ n2_
                                have p112 : 0 ≤ (x89_3 : Int) := of_decide_eq_true (by first | (with_reducible assumption) | assumption)
                                have q112 : x89_3 < (x3_3.length : Int) := of_decide_eq_true (by first | (with_reducible assumption) | assumption)
                                obtain ⟨ad112, e112, hx112_0, hx112_1⟩ := at_T24 (Kd.R_reads' HO_3.out).2.2 x89_3 p112 q112
                                cases e112
                                replace p112 := eq_true p112
                                replace q112 := eq_true q112
                                have p113 : 0 ≤ ((ji42) : Int) := of_decide_eq_true (by first | (with_reducible assumption) | assumption)
                                have q113 : (ji42) < (x10_3.length : Int) := of_decide_eq_true (by first | (with_reducible assumption) | assumption)
                                obtain ⟨ad113, e113, hx113_0, hx113_1⟩ := at_T24 (Kd.R_reads' HO_10.out).2.2 (ji42) p113 q113
                                cases e113
                                replace p113 := eq_true p113
                                replace q113 := eq_true q113
                                refine start_ (n := 19) (S := fun w' => w'.cell? (ad112.add ((x89_3).toNat * 2)) = some (.int .u32 ((rd_T24 x3_3 x89_3).f0)) ∧ w'.cell? ⟨(ad112.add ((x89_3).toNat * 2)).block, (ad112.add ((x89_3).toNat * 2)).off + 1, none⟩ = some (.int .u32 ((rd_T24 x3_3 x89_3).f1)) ∧ w'.cell? (ad113.add (((ji42)).toNat * 2)) = some (.int .u32 ((rd_T24 x10_3 (ji42)).f0)) ∧ w'.cell? ⟨(ad113.add (((ji42)).toNat * 2)).block, (ad113.add (((ji42)).toNat * 2)).off + 1, none⟩ = some (.int .u32 ((rd_T24 x10_3 (ji42)).f1))) (ds := []) #[false, false, false, false, false, false, false, false, false, false, false, false, false, false, false, false, false, false, false] (by kernel_rfl) rfl rfl ⟨hx112_0, hx112_1, hx113_0, hx113_1⟩ (fun hHeld => ?_); refine with_tabW spec_Set9.tab27 spec_Set9.bits27 (fun HT_ HW_ => ?_)
                                generalize wr.drew = w49 at HO_3 HO_10 HB hx112_0 hx112_1 hx113_0 hx113_1 hHeld ⊢
                                refine pure_ (i := 0) (N := some 94) (v := ?_) (a' := ?_) #[true, false, false, false, false, false, false, false, false, false, false, false, false, false, false, false, false, false, false] rfl rfl (any_of HT_.out (by kernel_rfl)) (fun _ _ _ h => h) (Or.inl ⟨by rfl, ?_⟩) ?_ ?_
                                rotate_left
                                · intro w'
                                  go_simp
                                  with_reducible rfl
                                rotate_left
                                · simp only [Act.put, List.setIfInBounds_toArray, List.set_cons_zero, List.set_cons_succ, i64_w, i32_w]
                                  rfl
                                refine pure_ (i := 1) (N := some 95) (v := ?_) (a' := ?_) #[true, true, false, false, false, false, false, false, false, false, false, false, false, false, false, false, false, false, false] rfl rfl (any_of HT_.out (by kernel_rfl)) (fun _ _ _ h => h) (Or.inl ⟨by rfl, ?_⟩) ?_ ?_
                                rotate_left
                                · intro w'
                                  go_simp
                                  with_reducible rfl
                                rotate_left
                                · simp only [Act.put, List.setIfInBounds_toArray, List.set_cons_zero, List.set_cons_succ, i64_w, i32_w]
                                  rfl
                                refine pure_ (i := 2) (N := some 96) (v := ?_) (a' := ?_) #[true, true, true, false, false, false, false, false, false, false, false, false, false, false, false, false, false, false, false] rfl rfl (any_of HT_.out (by kernel_rfl)) (fun _ _ _ h => h) (Or.inl ⟨by rfl, ?_⟩) ?_ ?_
                                rotate_left
                                · intro w'
                                  go_simp
                                  with_reducible rfl
                                rotate_left
                                · simp only [Act.put, List.setIfInBounds_toArray, List.set_cons_zero, List.set_cons_succ, i64_w, i32_w]
                                  rfl
                                refine pure_ (i := 3) (N := some 97) (v := ?_) (a' := ?_) #[true, true, true, true, false, false, false, false, false, false, false, false, false, false, false, false, false, false, false] rfl rfl (any_of HT_.out (by kernel_rfl)) (fun _ _ _ h => h) (Or.inl ⟨by rfl, ?_⟩) ?_ ?_
                                rotate_left
                                · intro w'
                                  go_simp
                                  with_reducible rfl
                                rotate_left
                                · simp only [Act.put, List.setIfInBounds_toArray, List.set_cons_zero, List.set_cons_succ, i64_w, i32_w]
                                  rfl
                                refine pure_ (i := 4) (N := some 98) (v := ?_) (a' := ?_) #[true, true, true, true, true, false, false, false, false, false, false, false, false, false, false, false, false, false, false] rfl rfl (any_of HT_.out (by kernel_rfl)) (fun _ _ _ h => h) (Or.inl ⟨by rfl, ?_⟩) ?_ ?_
                                rotate_left
                                · intro w'
                                  go_simp
                                  with_reducible rfl
                                rotate_left
                                · simp only [Act.put, List.setIfInBounds_toArray, List.set_cons_zero, List.set_cons_succ, i64_w, i32_w]
                                  rfl
                                refine pure_ (i := 5) (N := some 99) (v := ?_) (a' := ?_) #[true, true, true, true, true, true, false, false, false, false, false, false, false, false, false, false, false, false, false] rfl rfl (any_of HT_.out (by kernel_rfl)) (fun _ _ _ h => h) (Or.inl ⟨by rfl, ?_⟩) ?_ ?_
                                rotate_left
                                · intro w'
                                  go_simp
                                  with_reducible rfl
                                rotate_left
                                · simp only [Act.put, List.setIfInBounds_toArray, List.set_cons_zero, List.set_cons_succ, i64_w, i32_w]
                                  rfl
                                refine pure_ (i := 6) (N := some 100) (v := ?_) (a' := ?_) #[true, true, true, true, true, true, true, false, false, false, false, false, false, false, false, false, false, false, false] rfl rfl (any_of HT_.out (by kernel_rfl)) (fun _ _ _ h => h) (Or.inl ⟨by rfl, ?_⟩) ?_ ?_
                                rotate_left
                                · intro w'
                                  go_simp
                                  with_reducible rfl
                                rotate_left
                                · simp only [Act.put, List.setIfInBounds_toArray, List.set_cons_zero, List.set_cons_succ, i64_w, i32_w]
                                  rfl
                                refine pure_ (i := 9) (N := some 103) (v := ?_) (a' := ?_) #[true, true, true, true, true, true, true, false, false, true, false, false, false, false, false, false, false, false, false] rfl rfl (any_of HT_.out (by kernel_rfl)) (fun _ _ _ h => h) (Or.inl ⟨by rfl, ?_⟩) ?_ ?_
                                rotate_left
                                · intro w'
                                  go_simp
                                  with_reducible rfl
                                rotate_left
                                · simp only [Act.put, List.setIfInBounds_toArray, List.set_cons_zero, List.set_cons_succ, i64_w, i32_w]
                                  rfl
                                refine pure_ (i := 10) (N := some 104) (v := ?_) (a' := ?_) #[true, true, true, true, true, true, true, false, false, true, true, false, false, false, false, false, false, false, false] rfl rfl (any_of HT_.out (by kernel_rfl)) (fun _ _ _ h => h) (Or.inl ⟨by rfl, ?_⟩) ?_ ?_
                                rotate_left
                                · intro w'
                                  go_simp
                                  with_reducible rfl
                                rotate_left
                                · simp only [Act.put, List.setIfInBounds_toArray, List.set_cons_zero, List.set_cons_succ, i64_w, i32_w]
                                  rfl
                                refine pure_ (i := 11) (N := some 105) (v := ?_) (a' := ?_) #[true, true, true, true, true, true, true, false, false, true, true, true, false, false, false, false, false, false, false] rfl rfl (any_of HT_.out (by kernel_rfl)) (fun _ _ _ h => h) (Or.inl ⟨by rfl, ?_⟩) ?_ ?_
                                rotate_left
                                · intro w'
                                  go_simp
                                  with_reducible rfl
                                rotate_left
                                · simp only [Act.put, List.setIfInBounds_toArray, List.set_cons_zero, List.set_cons_succ, i64_w, i32_w]
                                  rfl
                                refine pure_ (i := 12) (N := some 106) (v := ?_) (a' := ?_) #[true, true, true, true, true, true, true, false, false, true, true, true, true, false, false, false, false, false, false] rfl rfl (any_of HT_.out (by kernel_rfl)) (fun _ _ _ h => h) (Or.inl ⟨by rfl, ?_⟩) ?_ ?_
                                rotate_left
                                · intro w'
                                  go_simp
                                  with_reducible rfl
                                rotate_left
                                · simp only [Act.put, List.setIfInBounds_toArray, List.set_cons_zero, List.set_cons_succ, i64_w, i32_w]
                                  rfl
                                refine pure_ (i := 13) (N := some 107) (v := ?_) (a' := ?_) #[true, true, true, true, true, true, true, false, false, true, true, true, true, true, false, false, false, false, false] rfl rfl (any_of HT_.out (by kernel_rfl)) (fun _ _ _ h => h) (Or.inl ⟨by rfl, ?_⟩) ?_ ?_
                                rotate_left
                                · intro w'
                                  go_simp
                                  with_reducible rfl
                                rotate_left
                                · simp only [Act.put, List.setIfInBounds_toArray, List.set_cons_zero, List.set_cons_succ, i64_w, i32_w]
                                  rfl
                                refine take_ (i := 7) (N := some 101) (v := ?_) (a' := ?_) #[true, true, true, true, true, true, true, true, false, true, true, true, true, true, false, false, false, false, false] rfl rfl (take_ofW HT_.out HW_.out (by kernel_rfl)) (fun _ _ _ h => h) (Or.inl ⟨by rfl, ?_⟩) hHeld ?_ ?_
                                rotate_left
                                · rintro w' ⟨s0, s1, s2, s3⟩
                                  go_simp
                                  with_reducible rfl
                                rotate_left
                                · simp only [Act.put, List.setIfInBounds_toArray, List.set_cons_zero, List.set_cons_succ, i64_w, i32_w]
                                  rfl
                                refine pure_ (i := 8) (N := some 102) (v := ?_) (a' := ?_) #[true, true, true, true, true, true, true, true, true, true, true, true, true, true, false, false, false, false, false] rfl rfl (any_of HT_.out (by kernel_rfl)) (fun _ _ _ h => h) (Or.inl ⟨by rfl, ?_⟩) ?_ ?_
                                rotate_left
                                · intro w'
                                  go_simp
                                  with_reducible rfl
                                rotate_left
                                · simp only [Act.put, List.setIfInBounds_toArray, List.set_cons_zero, List.set_cons_succ, i64_w, i32_w]
                                  rfl
                                refine take_ (i := 14) (N := some 108) (v := ?_) (a' := ?_) #[true, true, true, true, true, true, true, true, true, true, true, true, true, true, true, false, false, false, false] rfl rfl (take_ofW HT_.out HW_.out (by kernel_rfl)) (fun _ _ _ h => h) (Or.inl ⟨by rfl, ?_⟩) hHeld ?_ ?_
                                rotate_left
                                · rintro w' ⟨s0, s1, s2, s3⟩
                                  go_simp
                                  with_reducible rfl
                                rotate_left
                                · simp only [Act.put, List.setIfInBounds_toArray, List.set_cons_zero, List.set_cons_succ, i64_w, i32_w]
                                  rfl
                                refine pure_ (i := 15) (N := some 109) (v := ?_) (a' := ?_) #[true, true, true, true, true, true, true, true, true, true, true, true, true, true, true, true, false, false, false] rfl rfl (any_of HT_.out (by kernel_rfl)) (fun _ _ _ h => h) (Or.inl ⟨by rfl, ?_⟩) ?_ ?_
                                rotate_left
                                · intro w'
                                  go_simp
                                  with_reducible rfl
                                rotate_left
                                · simp only [Act.put, List.setIfInBounds_toArray, List.set_cons_zero, List.set_cons_succ, i64_w, i32_w]
                                  rfl
                                refine pure_ (i := 16) (N := some 110) (v := ?_) (a' := ?_) #[true, true, true, true, true, true, true, true, true, true, true, true, true, true, true, true, true, false, false] rfl rfl (any_of HT_.out (by kernel_rfl)) (fun _ _ _ h => h) (Or.inl ⟨by rfl, ?_⟩) ?_ ?_
                                rotate_left
                                · intro w'
                                  go_simp
                                  with_reducible rfl
                                rotate_left
                                · simp only [Act.put, List.setIfInBounds_toArray, List.set_cons_zero, List.set_cons_succ, i64_w, i32_w]
                                  rfl
                                refine pure_ (i := 17) (N := some 111) (v := ?_) (a' := ?_) #[true, true, true, true, true, true, true, true, true, true, true, true, true, true, true, true, true, true, false] rfl rfl (any_of HT_.out (by kernel_rfl)) (fun _ _ _ h => h) (Or.inl ⟨by rfl, ?_⟩) ?_ ?_
                                rotate_left
                                · intro w'
                                  go_simp
                                  with_reducible rfl
                                rotate_left
                                · simp only [Act.put, List.setIfInBounds_toArray, List.set_cons_zero, List.set_cons_succ, i64_w, i32_w]
                                  rfl
                                refine pure_ (i := 18) (N := some 112) (v := ?_) (a' := ?_) #[true, true, true, true, true, true, true, true, true, true, true, true, true, true, true, true, true, true, true] rfl rfl (any_of HT_.out (by kernel_rfl)) (fun _ _ _ h => h) (Or.inl ⟨by rfl, ?_⟩) ?_ ?_
                                rotate_left
                                · intro w'
                                  go_simp
                                  with_reducible rfl
                                rotate_left
                                · simp only [Act.put, List.setIfInBounds_toArray, List.set_cons_zero, List.set_cons_succ, i64_w, i32_w]
                                  rfl
                                refine done_ (done_of HT_.out (by kernel_rfl)) ?_
                                try go_wp2
                                have n0_ := Aside0.mk (Kd.R_drew HO_3.out)
                                have n1_ := Aside0.mk (Kd.R_drew HO_10.out)
                                have n2_ := Aside0.mk (below_drew1 HB.out)
                                clear HO_3
                                clear HO_10
                                clear HB
                                have HO_3 := n0_
                                have HO_10 := n1_
                                have HB := n2_
                                clear n0_ n1_ n2_
                                have p114 : 0 ≤ ((ji42) : Int) := of_decide_eq_true (by first | (with_reducible assumption) | assumption)
                                have q114 : (ji42) < (x10_3.length : Int) := of_decide_eq_true (by first | (with_reducible assumption) | assumption)
                                obtain ⟨ad114, e114, hx114_0, hx114_1⟩ := at_T24 (Kd.R_reads' HO_10.out).2.2 (ji42) p114 q114
                                obtain rfl : ad113 = ad114 := (by injection e114)
                                replace p114 := eq_true p114
                                replace q114 := eq_true q114
                                have p115 : 0 ≤ (x89_3 : Int) := of_decide_eq_true (by first | (with_reducible assumption) | assumption)
                                have q115 : x89_3 < (x3_3.length : Int) := of_decide_eq_true (by first | (with_reducible assumption) | assumption)
                                obtain ⟨ad115, e115, hx115_0, hx115_1⟩ := at_T24 (Kd.R_reads' HO_3.out).2.2 x89_3 p115 q115
                                obtain rfl : ad112 = ad115 := (by injection e115)
                                replace p115 := eq_true p115
                                replace q115 := eq_true q115
                                have p47 : 0 ≤ ((ji42) : Int) := of_decide_eq_true (by first | (with_reducible assumption) | assumption)
                                have q47 : ((ji42) : Int) < ((x10_3.length : Int) : Int) := of_decide_eq_true (by first | (with_reducible assumption) | assumption)
                                obtain ⟨go47, co47, eo47, gb47, gl47, cl47, HG47⟩ := Kd.R_form HO_10.out (by omega)
                                (first | cases eo47 | (injection eo47 with ea_ en_ ec_; (first | subst ea_ | (injection ea_ with ea_; subst ea_)); subst ec_; clear en_))
                                have GB47 := Aside0.mk gb47
                                have GG47 := Aside0.mk HG47
                                clear gb47 gl47 HG47
                                (first | simp only [add_plain] at hx113_0 | skip)
                                (first | simp only [add_plain] at hx113_1 | skip)
                                (first | simp only [add_plain] at hx114_0 | skip)
                                (first | simp only [add_plain] at hx114_1 | skip)
                                obtain ⟨ce47, hcl47, hM47, hcc47, hfr47⟩ := Kd.R_elem HO_10.out z24 ((ji42) : Int) p47 q47
                                obtain rfl := k24_openM hM47
                                have hx47_0 : World.cell? _ ⟨go47, ((ji42) : Int).toNat * 2, none⟩ = some (.int .u32 ((rd_T24 x10_3 (ji42)).f0)) := hcc47 0 _ rfl
                                have hx47_1 : World.cell? _ ⟨go47, ((ji42) : Int).toNat * 2 + 1, none⟩ = some (.int .u32 ((rd_T24 x10_3 (ji42)).f1)) := hcc47 1 _ rfl
                                have hf47_0 : World.frozen? _ ⟨go47, ((ji42) : Int).toNat * 2, none⟩ = false := hfr47 0
                                have hf47_1 : World.frozen? _ ⟨go47, ((ji42) : Int).toNat * 2 + 1, none⟩ = false := hfr47 1
                                clear hcl47 hcc47 hfr47 hM47
                                replace p47 := eq_true p47
                                replace q47 := eq_true q47
                                obtain ⟨ce51, hcl51, hM51, hcc51, hfr51⟩ := Kd.R_elem HO_10.out z24 ((ji42) : Int) (of_decide_eq_true (by first | (with_reducible assumption) | assumption)) (by have h_ : ((ji42) : Int) < ((x10_3.length : Int) : Int) := of_decide_eq_true (by first | (with_reducible assumption) | assumption); first | exact h_ | (have e_ := (Kd.R_reads' HO_10.out).1; omega) | simpa using h_)
                                obtain rfl := k24_openM hM51
                                have HP51 := (Kd.R_seg HO_10.out ((ji42) : Int) (of_decide_eq_true (by first | (with_reducible assumption) | assumption)) (by have h_ : ((ji42) : Int) < ((x10_3.length : Int) : Int) := of_decide_eq_true (by first | (with_reducible assumption) | assumption); first | exact h_ | (have e_ := (Kd.R_reads' HO_10.out).1; omega) | simpa using h_) (seg := [.int .u32 ji46]) (j := 1) hcl51 hcc51 (show 2 ≤ 2 from by decide) (x' := (⟨(rd_T24 x10_3 (ji42)).f0, ji46⟩ : S24)) (k24_mkM _ _ _ (⟨(rd_T24 x10_3 (ji42)).f0, ji46⟩ : S24) ) (fun _ hk => hk)).1
                                rw [← Ny116.out] at HP51
                                have HQ51 := Aside0.mk HP51
                                clear hcl51 hcc51 hfr51 hM51 HP51
                                refine start_ (n := 18) (S := fun w' => w'.cell? ⟨go47, (((ji42)).toNat * 2), none⟩ = some (.int .u32 ((rd_T24 x10_3 (ji42)).f0)) ∧ w'.cell? ⟨go47, (((ji42)).toNat * 2) + 1, none⟩ = some (.int .u32 ((rd_T24 x10_3 (ji42)).f1)) ∧ w'.cell? (ad112.add ((x89_3).toNat * 2)) = some (.int .u32 ((rd_T24 x3_3 x89_3).f0)) ∧ w'.cell? ⟨(ad112.add ((x89_3).toNat * 2)).block, (ad112.add ((x89_3).toNat * 2)).off + 1, none⟩ = some (.int .u32 ((rd_T24 x3_3 x89_3).f1))) (ds := [17]) #[false, false, false, false, false, false, false, false, false, false, false, false, false, false, false, false, false, false] (by kernel_rfl) rfl rfl ⟨hx114_0, hx114_1, hx115_0, hx115_1⟩ (fun hHeld => ?_); refine with_tabW spec_Set9.tab28 spec_Set9.bits28 (fun HT_ HW_ => ?_)
                                generalize w49.drew = w50 at HO_3 HO_10 HB GG47 HQ51 hf47_0 hf47_1 hx113_0 hx113_1 hx114_0 hx114_1 hx115_0 hx115_1 hx47_0 hx47_1 hHeld ⊢
                                refine pure_ (i := 0) (N := some 113) (v := ?_) (a' := ?_) #[true, false, false, false, false, false, false, false, false, false, false, false, false, false, false, false, false, false] rfl rfl (any_of HT_.out (by kernel_rfl)) (fun _ _ _ h => h) (Or.inl ⟨by rfl, ?_⟩) ?_ ?_
                                rotate_left
                                · intro w'
                                  go_simp
                                  with_reducible rfl
                                rotate_left
                                · simp only [Act.put, List.setIfInBounds_toArray, List.set_cons_zero, List.set_cons_succ, i64_w, i32_w]
                                  rfl
                                refine pure_ (i := 1) (N := some 114) (v := ?_) (a' := ?_) #[true, true, false, false, false, false, false, false, false, false, false, false, false, false, false, false, false, false] rfl rfl (any_of HT_.out (by kernel_rfl)) (fun _ _ _ h => h) (Or.inl ⟨by rfl, ?_⟩) ?_ ?_
                                rotate_left
                                · intro w'
                                  go_simp
                                  with_reducible rfl
                                rotate_left
                                · simp only [Act.put, List.setIfInBounds_toArray, List.set_cons_zero, List.set_cons_succ, i64_w, i32_w]
                                  rfl
                                refine pure_ (i := 2) (N := some 115) (v := ?_) (a' := ?_) #[true, true, true, false, false, false, false, false, false, false, false, false, false, false, false, false, false, false] rfl rfl (any_of HT_.out (by kernel_rfl)) (fun _ _ _ h => h) (Or.inl ⟨by rfl, ?_⟩) ?_ ?_
                                rotate_left
                                · intro w'
                                  go_simp
                                  with_reducible rfl
                                rotate_left
                                · simp only [Act.put, List.setIfInBounds_toArray, List.set_cons_zero, List.set_cons_succ, i64_w, i32_w]
                                  rfl
                                refine pure_ (i := 3) (N := some 116) (v := ?_) (a' := ?_) #[true, true, true, true, false, false, false, false, false, false, false, false, false, false, false, false, false, false] rfl rfl (any_of HT_.out (by kernel_rfl)) (fun _ _ _ h => h) (Or.inl ⟨by rfl, ?_⟩) ?_ ?_
                                rotate_left
                                · intro w'
                                  go_simp
                                  with_reducible rfl
                                rotate_left
                                · simp only [Act.put, List.setIfInBounds_toArray, List.set_cons_zero, List.set_cons_succ, i64_w, i32_w]
                                  rfl
                                refine pure_ (i := 4) (N := some 117) (v := ?_) (a' := ?_) #[true, true, true, true, true, false, false, false, false, false, false, false, false, false, false, false, false, false] rfl rfl (any_of HT_.out (by kernel_rfl)) (fun _ _ _ h => h) (Or.inl ⟨by rfl, ?_⟩) ?_ ?_
                                rotate_left
                                · intro w'
                                  go_simp
                                  with_reducible rfl
                                rotate_left
                                · simp only [Act.put, List.setIfInBounds_toArray, List.set_cons_zero, List.set_cons_succ, i64_w, i32_w]
                                  rfl
                                refine pure_ (i := 5) (N := some 118) (v := ?_) (a' := ?_) #[true, true, true, true, true, true, false, false, false, false, false, false, false, false, false, false, false, false] rfl rfl (any_of HT_.out (by kernel_rfl)) (fun _ _ _ h => h) (Or.inl ⟨by rfl, ?_⟩) ?_ ?_
                                rotate_left
                                · intro w'
                                  go_simp
                                  with_reducible rfl
                                rotate_left
                                · simp only [Act.put, List.setIfInBounds_toArray, List.set_cons_zero, List.set_cons_succ, i64_w, i32_w]
                                  rfl
                                refine pure_ (i := 6) (N := some 119) (v := ?_) (a' := ?_) #[true, true, true, true, true, true, true, false, false, false, false, false, false, false, false, false, false, false] rfl rfl (any_of HT_.out (by kernel_rfl)) (fun _ _ _ h => h) (Or.inl ⟨by rfl, ?_⟩) ?_ ?_
                                rotate_left
                                · intro w'
                                  go_simp
                                  with_reducible rfl
                                rotate_left
                                · simp only [Act.put, List.setIfInBounds_toArray, List.set_cons_zero, List.set_cons_succ, i64_w, i32_w]
                                  rfl
                                refine pure_ (i := 7) (N := some 120) (v := ?_) (a' := ?_) #[true, true, true, true, true, true, true, true, false, false, false, false, false, false, false, false, false, false] rfl rfl (any_of HT_.out (by kernel_rfl)) (fun _ _ _ h => h) (Or.inl ⟨by rfl, ?_⟩) ?_ ?_
                                rotate_left
                                · intro w'
                                  go_simp
                                  with_reducible rfl
                                rotate_left
                                · simp only [Act.put, List.setIfInBounds_toArray, List.set_cons_zero, List.set_cons_succ, i64_w, i32_w]
                                  rfl
                                refine pure_ (i := 9) (N := some 122) (v := ?_) (a' := ?_) #[true, true, true, true, true, true, true, true, false, true, false, false, false, false, false, false, false, false] rfl rfl (any_of HT_.out (by kernel_rfl)) (fun _ _ _ h => h) (Or.inl ⟨by rfl, ?_⟩) ?_ ?_
                                rotate_left
                                · intro w'
                                  go_simp
                                  with_reducible rfl
                                rotate_left
                                · simp only [Act.put, List.setIfInBounds_toArray, List.set_cons_zero, List.set_cons_succ, i64_w, i32_w]
                                  rfl
                                refine pure_ (i := 10) (N := some 123) (v := ?_) (a' := ?_) #[true, true, true, true, true, true, true, true, false, true, true, false, false, false, false, false, false, false] rfl rfl (any_of HT_.out (by kernel_rfl)) (fun _ _ _ h => h) (Or.inl ⟨by rfl, ?_⟩) ?_ ?_
                                rotate_left
                                · intro w'
                                  go_simp
                                  with_reducible rfl
                                rotate_left
                                · simp only [Act.put, List.setIfInBounds_toArray, List.set_cons_zero, List.set_cons_succ, i64_w, i32_w]
                                  rfl
                                refine pure_ (i := 11) (N := some 124) (v := ?_) (a' := ?_) #[true, true, true, true, true, true, true, true, false, true, true, true, false, false, false, false, false, false] rfl rfl (any_of HT_.out (by kernel_rfl)) (fun _ _ _ h => h) (Or.inl ⟨by rfl, ?_⟩) ?_ ?_
                                rotate_left
                                · intro w'
                                  go_simp
                                  with_reducible rfl
                                rotate_left
                                · simp only [Act.put, List.setIfInBounds_toArray, List.set_cons_zero, List.set_cons_succ, i64_w, i32_w]
                                  rfl
                                refine pure_ (i := 12) (N := some 125) (v := ?_) (a' := ?_) #[true, true, true, true, true, true, true, true, false, true, true, true, true, false, false, false, false, false] rfl rfl (any_of HT_.out (by kernel_rfl)) (fun _ _ _ h => h) (Or.inl ⟨by rfl, ?_⟩) ?_ ?_
                                rotate_left
                                · intro w'
                                  go_simp
                                  with_reducible rfl
                                rotate_left
                                · simp only [Act.put, List.setIfInBounds_toArray, List.set_cons_zero, List.set_cons_succ, i64_w, i32_w]
                                  rfl
                                refine take_ (i := 8) (N := some 121) (v := ?_) (a' := ?_) #[true, true, true, true, true, true, true, true, true, true, true, true, true, false, false, false, false, false] rfl rfl (take_ofW HT_.out HW_.out (by kernel_rfl)) (fun _ _ _ h => h) (Or.inl ⟨by rfl, ?_⟩) hHeld ?_ ?_
                                rotate_left
                                · rintro w' ⟨s0, s1, s2, s3⟩
                                  go_simp
                                  with_reducible rfl
                                rotate_left
                                · simp only [Act.put, List.setIfInBounds_toArray, List.set_cons_zero, List.set_cons_succ, i64_w, i32_w]
                                  rfl
                                refine take_ (i := 13) (N := some 126) (v := ?_) (a' := ?_) #[true, true, true, true, true, true, true, true, true, true, true, true, true, true, false, false, false, false] rfl rfl (take_ofW HT_.out HW_.out (by kernel_rfl)) (fun _ _ _ h => h) (Or.inl ⟨by rfl, ?_⟩) hHeld ?_ ?_
                                rotate_left
                                · rintro w' ⟨s0, s1, s2, s3⟩
                                  go_simp
                                  with_reducible rfl
                                rotate_left
                                · simp only [Act.put, List.setIfInBounds_toArray, List.set_cons_zero, List.set_cons_succ, i64_w, i32_w]
                                  rfl
                                refine pure_ (i := 14) (N := some 127) (v := ?_) (a' := ?_) #[true, true, true, true, true, true, true, true, true, true, true, true, true, true, true, false, false, false] rfl rfl (any_of HT_.out (by kernel_rfl)) (fun _ _ _ h => h) (Or.inl ⟨by rfl, ?_⟩) ?_ ?_
                                rotate_left
                                · intro w'
                                  go_simp
                                  with_reducible rfl
                                rotate_left
                                · simp only [Act.put, List.setIfInBounds_toArray, List.set_cons_zero, List.set_cons_succ, i64_w, i32_w]
                                  rfl
                                refine pure_ (i := 15) (N := some 128) (v := ?_) (a' := ?_) #[true, true, true, true, true, true, true, true, true, true, true, true, true, true, true, true, false, false] rfl rfl (any_of HT_.out (by kernel_rfl)) (fun _ _ _ h => h) (Or.inl ⟨by rfl, ?_⟩) ?_ ?_
                                rotate_left
                                · intro w'
                                  go_simp
                                  with_reducible rfl
                                rotate_left
                                · simp only [Act.put, List.setIfInBounds_toArray, List.set_cons_zero, List.set_cons_succ, i64_w, i32_w]
                                  rfl
                                refine pure_ (i := 16) (N := some 129) (v := ?_) (a' := ?_) #[true, true, true, true, true, true, true, true, true, true, true, true, true, true, true, true, true, false] rfl rfl (any_of HT_.out (by kernel_rfl)) (fun _ _ _ h => h) (Or.inl ⟨by rfl, ?_⟩) ?_ ?_
                                rotate_left
                                · intro w'
                                  go_simp
                                  with_reducible rfl
                                rotate_left
                                · simp only [Act.put, List.setIfInBounds_toArray, List.set_cons_zero, List.set_cons_succ, i64_w, i32_w]
                                  rfl
                                refine last_ (i := 17) (N := none) #[true, true, true, true, true, true, true, true, true, true, true, true, true, true, true, true, true, true] rfl rfl (one_of HT_.out (by kernel_rfl)) (by decide) (fun K hK => ?_)
                                refine skip_ (w1 := ?_) (by rfl) rfl ?_ ?_
                                rotate_left
                                · go_simp
                                  rfl
                                refine hK.out _ _ ?_
                                clear hK K
                                refine done_ (done_of HT_.out (by kernel_rfl)) ?_
                                try go_wp2
                                (try simp only [← hl3_3])
                                go_roundg k3
                                case measure => have := HK1.out; have := HK2.out; have := HK3.out; omega
                                case rel => exact ⟨(x3_3), (y116), (wrap64 (x89_3 + 1)), (by first | rfl | (simp; done) | (simp [*]; done)), (by first | exact H' | (rw [hji42, hji46]; exact H') | (simp only [hji42, hji46]; exact H')), ⟨by have := HK1.out; have := HK2.out; have := HK3.out; omega⟩, ⟨by (try simp only [hl3_2]); (try simp only [hl3_3]); (with_reducible repeat (first | apply Kd.R_alloc | apply Kd.R_drewN | apply Kd.R_drew)); exact Kd.R_mono (Kd.R_far (p := ⟨go47, ((ji42) : Int).toNat * 2 + 1, none⟩) (Kd.R_mono HO_3.out (fun k_ hk => (⟨hk, fun e_ => hk (by rw [e_]; rfl)⟩ : _ ∧ k_ ≠ go47))) (fun _ hk => hk.2) (.int .u32 ji46)) (fun _ hk => hk.1)⟩, ⟨by (try simp only [hl3_2]); (try simp only [hl3_3]); (with_reducible repeat (first | apply Kd.R_alloc | apply Kd.R_drewN | apply Kd.R_drew)); exact HQ51.out⟩, ⟨by repeat (first | (with_reducible first | exact HB.out | apply below_alloc | apply pw_below_drewN | apply below_drew1 | refine below_set ?_ GB47.out) | exact HB.out)⟩⟩
                              · rw [if_neg c45] at H
                                have c45b0 : decide ((IntKind.u64.wrap ((rd_T24 x3_3 x89_3).f0)) ≤ (IntKind.u64.wrap ((IntKind.u64.wrap ((rd_T24 x10_3 (ji42)).f1)) + 1))) = false := decide_eq_false c45
                                clear c45
                                by_cases c52 : x10_3.length < 17592186044416
                                · rw [if_pos c52] at H
                                  have LMc52 := Aside0.mk c52
                                  clear c52
                                  obtain ⟨y118, hy118⟩ : ∃ y_ : List (S24), y_ = (x10_3 ++ [(⟨(rd_T24 x3_3 x89_3).f0, (rd_T24 x3_3 x89_3).f1⟩ : S24)]) := ⟨_, rfl⟩
                                  replace H : (spec_Set9.l3 k3 x3_3 x4_1 x5_1 y118 (x3_2.length : Int) (wrap64 (x89_3 + 1))) = some r := by first | (rw [hy118]; with_reducible exact H) | (have H2_ := (Option.bind_some _ _).symm.trans H; rw [hy118]; with_reducible exact H2_) | (have H2_ := (Option.bind_some _ _).symm.trans H; with_reducible exact H2_) | with_reducible exact H | (rw [hy118]; exact H) | exact H
                                  have Ny118 := Aside0.mk hy118
                                  clear hy118
                                  have H' := Aside0.mk H
                                  clear H
                                  obtain ⟨Ao53, co53, eo53⟩ := Kd.R_slice HO_10.out
                                  subst eo53
                                  try go_wp2
                                  have n0_ := Aside0.mk (Kd.R_drew HO_3.out)
                                  have n1_ := Aside0.mk (Kd.R_drew HO_10.out)
                                  have n2_ := Aside0.mk (below_drew1 HB.out)
                                  clear HO_3
                                  clear HO_10
                                  clear HB
                                  have HO_3 := n0_
                                  have HO_10 := n1_
                                  have HB := n2_
                                  clear n0_ n1_ n2_
                                  have p112 : 0 ≤ (x89_3 : Int) := of_decide_eq_true (by first | (with_reducible assumption) | assumption)
                                  have q112 : x89_3 < (x3_3.length : Int) := of_decide_eq_true (by first | (with_reducible assumption) | assumption)
                                  obtain ⟨ad112, e112, hx112_0, hx112_1⟩ := at_T24 (Kd.R_reads' HO_3.out).2.2 x89_3 p112 q112
                                  cases e112
                                  replace p112 := eq_true p112
                                  replace q112 := eq_true q112
                                  have p113 : 0 ≤ ((ji42) : Int) := of_decide_eq_true (by first | (with_reducible assumption) | assumption)
                                  have q113 : (ji42) < (x10_3.length : Int) := of_decide_eq_true (by first | (with_reducible assumption) | assumption)
                                  obtain ⟨ad113, e113, hx113_0, hx113_1⟩ := at_T24 (Kd.R_reads' HO_10.out).2.2 (ji42) p113 q113
                                  cases e113
                                  replace p113 := eq_true p113
                                  replace q113 := eq_true q113
                                  refine start_ (n := 19) (S := fun w' => w'.cell? (ad112.add ((x89_3).toNat * 2)) = some (.int .u32 ((rd_T24 x3_3 x89_3).f0)) ∧ w'.cell? ⟨(ad112.add ((x89_3).toNat * 2)).block, (ad112.add ((x89_3).toNat * 2)).off + 1, none⟩ = some (.int .u32 ((rd_T24 x3_3 x89_3).f1)) ∧ w'.cell? (ad113.add (((ji42)).toNat * 2)) = some (.int .u32 ((rd_T24 x10_3 (ji42)).f0)) ∧ w'.cell? ⟨(ad113.add (((ji42)).toNat * 2)).block, (ad113.add (((ji42)).toNat * 2)).off + 1, none⟩ = some (.int .u32 ((rd_T24 x10_3 (ji42)).f1))) (ds := []) #[false, false, false, false, false, false, false, false, false, false, false, false, false, false, false, false, false, false, false] (by kernel_rfl) rfl rfl ⟨hx112_0, hx112_1, hx113_0, hx113_1⟩ (fun hHeld => ?_); refine with_tabW spec_Set9.tab27 spec_Set9.bits27 (fun HT_ HW_ => ?_)
                                  generalize wr.drew = w54 at HO_3 HO_10 HB hx112_0 hx112_1 hx113_0 hx113_1 hHeld ⊢
                                  refine pure_ (i := 0) (N := some 94) (v := ?_) (a' := ?_) #[true, false, false, false, false, false, false, false, false, false, false, false, false, false, false, false, false, false, false] rfl rfl (any_of HT_.out (by kernel_rfl)) (fun _ _ _ h => h) (Or.inl ⟨by rfl, ?_⟩) ?_ ?_
                                  rotate_left
                                  · intro w'
                                    go_simp
                                    with_reducible rfl
                                  rotate_left
                                  · simp only [Act.put, List.setIfInBounds_toArray, List.set_cons_zero, List.set_cons_succ, i64_w, i32_w]
                                    rfl
                                  refine pure_ (i := 1) (N := some 95) (v := ?_) (a' := ?_) #[true, true, false, false, false, false, false, false, false, false, false, false, false, false, false, false, false, false, false] rfl rfl (any_of HT_.out (by kernel_rfl)) (fun _ _ _ h => h) (Or.inl ⟨by rfl, ?_⟩) ?_ ?_
                                  rotate_left
                                  · intro w'
                                    go_simp
                                    with_reducible rfl
                                  rotate_left
                                  · simp only [Act.put, List.setIfInBounds_toArray, List.set_cons_zero, List.set_cons_succ, i64_w, i32_w]
                                    rfl
                                  refine pure_ (i := 2) (N := some 96) (v := ?_) (a' := ?_) #[true, true, true, false, false, false, false, false, false, false, false, false, false, false, false, false, false, false, false] rfl rfl (any_of HT_.out (by kernel_rfl)) (fun _ _ _ h => h) (Or.inl ⟨by rfl, ?_⟩) ?_ ?_
                                  rotate_left
                                  · intro w'
                                    go_simp
                                    with_reducible rfl
                                  rotate_left
                                  · simp only [Act.put, List.setIfInBounds_toArray, List.set_cons_zero, List.set_cons_succ, i64_w, i32_w]
                                    rfl
                                  refine pure_ (i := 3) (N := some 97) (v := ?_) (a' := ?_) #[true, true, true, true, false, false, false, false, false, false, false, false, false, false, false, false, false, false, false] rfl rfl (any_of HT_.out (by kernel_rfl)) (fun _ _ _ h => h) (Or.inl ⟨by rfl, ?_⟩) ?_ ?_
                                  rotate_left
                                  · intro w'
                                    go_simp
                                    with_reducible rfl
                                  rotate_left
                                  · simp only [Act.put, List.setIfInBounds_toArray, List.set_cons_zero, List.set_cons_succ, i64_w, i32_w]
                                    rfl
                                  refine pure_ (i := 4) (N := some 98) (v := ?_) (a' := ?_) #[true, true, true, true, true, false, false, false, false, false, false, false, false, false, false, false, false, false, false] rfl rfl (any_of HT_.out (by kernel_rfl)) (fun _ _ _ h => h) (Or.inl ⟨by rfl, ?_⟩) ?_ ?_
                                  rotate_left
                                  · intro w'
                                    go_simp
                                    with_reducible rfl
                                  rotate_left
                                  · simp only [Act.put, List.setIfInBounds_toArray, List.set_cons_zero, List.set_cons_succ, i64_w, i32_w]
                                    rfl
                                  refine pure_ (i := 5) (N := some 99) (v := ?_) (a' := ?_) #[true, true, true, true, true, true, false, false, false, false, false, false, false, false, false, false, false, false, false] rfl rfl (any_of HT_.out (by kernel_rfl)) (fun _ _ _ h => h) (Or.inl ⟨by rfl, ?_⟩) ?_ ?_
                                  rotate_left
                                  · intro w'
                                    go_simp
                                    with_reducible rfl
                                  rotate_left
                                  · simp only [Act.put, List.setIfInBounds_toArray, List.set_cons_zero, List.set_cons_succ, i64_w, i32_w]
                                    rfl
                                  refine pure_ (i := 6) (N := some 100) (v := ?_) (a' := ?_) #[true, true, true, true, true, true, true, false, false, false, false, false, false, false, false, false, false, false, false] rfl rfl (any_of HT_.out (by kernel_rfl)) (fun _ _ _ h => h) (Or.inl ⟨by rfl, ?_⟩) ?_ ?_
                                  rotate_left
                                  · intro w'
                                    go_simp
                                    with_reducible rfl
                                  rotate_left
                                  · simp only [Act.put, List.setIfInBounds_toArray, List.set_cons_zero, List.set_cons_succ, i64_w, i32_w]
                                    rfl
                                  refine pure_ (i := 9) (N := some 103) (v := ?_) (a' := ?_) #[true, true, true, true, true, true, true, false, false, true, false, false, false, false, false, false, false, false, false] rfl rfl (any_of HT_.out (by kernel_rfl)) (fun _ _ _ h => h) (Or.inl ⟨by rfl, ?_⟩) ?_ ?_
                                  rotate_left
                                  · intro w'
                                    go_simp
                                    with_reducible rfl
                                  rotate_left
                                  · simp only [Act.put, List.setIfInBounds_toArray, List.set_cons_zero, List.set_cons_succ, i64_w, i32_w]
                                    rfl
                                  refine pure_ (i := 10) (N := some 104) (v := ?_) (a' := ?_) #[true, true, true, true, true, true, true, false, false, true, true, false, false, false, false, false, false, false, false] rfl rfl (any_of HT_.out (by kernel_rfl)) (fun _ _ _ h => h) (Or.inl ⟨by rfl, ?_⟩) ?_ ?_
                                  rotate_left
                                  · intro w'
                                    go_simp
                                    with_reducible rfl
                                  rotate_left
                                  · simp only [Act.put, List.setIfInBounds_toArray, List.set_cons_zero, List.set_cons_succ, i64_w, i32_w]
                                    rfl
                                  refine pure_ (i := 11) (N := some 105) (v := ?_) (a' := ?_) #[true, true, true, true, true, true, true, false, false, true, true, true, false, false, false, false, false, false, false] rfl rfl (any_of HT_.out (by kernel_rfl)) (fun _ _ _ h => h) (Or.inl ⟨by rfl, ?_⟩) ?_ ?_
                                  rotate_left
                                  · intro w'
                                    go_simp
                                    with_reducible rfl
                                  rotate_left
                                  · simp only [Act.put, List.setIfInBounds_toArray, List.set_cons_zero, List.set_cons_succ, i64_w, i32_w]
                                    rfl
                                  refine pure_ (i := 12) (N := some 106) (v := ?_) (a' := ?_) #[true, true, true, true, true, true, true, false, false, true, true, true, true, false, false, false, false, false, false] rfl rfl (any_of HT_.out (by kernel_rfl)) (fun _ _ _ h => h) (Or.inl ⟨by rfl, ?_⟩) ?_ ?_
                                  rotate_left
                                  · intro w'
                                    go_simp
                                    with_reducible rfl
                                  rotate_left
                                  · simp only [Act.put, List.setIfInBounds_toArray, List.set_cons_zero, List.set_cons_succ, i64_w, i32_w]
                                    rfl
                                  refine pure_ (i := 13) (N := some 107) (v := ?_) (a' := ?_) #[true, true, true, true, true, true, true, false, false, true, true, true, true, true, false, false, false, false, false] rfl rfl (any_of HT_.out (by kernel_rfl)) (fun _ _ _ h => h) (Or.inl ⟨by rfl, ?_⟩) ?_ ?_
                                  rotate_left
                                  · intro w'
                                    go_simp
                                    with_reducible rfl
                                  rotate_left
                                  · simp only [Act.put, List.setIfInBounds_toArray, List.set_cons_zero, List.set_cons_succ, i64_w, i32_w]
                                    rfl
                                  refine take_ (i := 7) (N := some 101) (v := ?_) (a' := ?_) #[true, true, true, true, true, true, true, true, false, true, true, true, true, true, false, false, false, false, false] rfl rfl (take_ofW HT_.out HW_.out (by kernel_rfl)) (fun _ _ _ h => h) (Or.inl ⟨by rfl, ?_⟩) hHeld ?_ ?_
                                  rotate_left
                                  · rintro w' ⟨s0, s1, s2, s3⟩
                                    go_simp
                                    with_reducible rfl
                                  rotate_left
                                  · simp only [Act.put, List.setIfInBounds_toArray, List.set_cons_zero, List.set_cons_succ, i64_w, i32_w]
                                    rfl
                                  refine pure_ (i := 8) (N := some 102) (v := ?_) (a' := ?_) #[true, true, true, true, true, true, true, true, true, true, true, true, true, true, false, false, false, false, false] rfl rfl (any_of HT_.out (by kernel_rfl)) (fun _ _ _ h => h) (Or.inl ⟨by rfl, ?_⟩) ?_ ?_
                                  rotate_left
                                  · intro w'
                                    go_simp
                                    with_reducible rfl
                                  rotate_left
                                  · simp only [Act.put, List.setIfInBounds_toArray, List.set_cons_zero, List.set_cons_succ, i64_w, i32_w]
                                    rfl
                                  refine take_ (i := 14) (N := some 108) (v := ?_) (a' := ?_) #[true, true, true, true, true, true, true, true, true, true, true, true, true, true, true, false, false, false, false] rfl rfl (take_ofW HT_.out HW_.out (by kernel_rfl)) (fun _ _ _ h => h) (Or.inl ⟨by rfl, ?_⟩) hHeld ?_ ?_
                                  rotate_left
                                  · rintro w' ⟨s0, s1, s2, s3⟩
                                    go_simp
                                    with_reducible rfl
                                  rotate_left
                                  · simp only [Act.put, List.setIfInBounds_toArray, List.set_cons_zero, List.set_cons_succ, i64_w, i32_w]
                                    rfl
                                  refine pure_ (i := 15) (N := some 109) (v := ?_) (a' := ?_) #[true, true, true, true, true, true, true, true, true, true, true, true, true, true, true, true, false, false, false] rfl rfl (any_of HT_.out (by kernel_rfl)) (fun _ _ _ h => h) (Or.inl ⟨by rfl, ?_⟩) ?_ ?_
                                  rotate_left
                                  · intro w'
                                    go_simp
                                    with_reducible rfl
                                  rotate_left
                                  · simp only [Act.put, List.setIfInBounds_toArray, List.set_cons_zero, List.set_cons_succ, i64_w, i32_w]
                                    rfl
                                  refine pure_ (i := 16) (N := some 110) (v := ?_) (a' := ?_) #[true, true, true, true, true, true, true, true, true, true, true, true, true, true, true, true, true, false, false] rfl rfl (any_of HT_.out (by kernel_rfl)) (fun _ _ _ h => h) (Or.inl ⟨by rfl, ?_⟩) ?_ ?_
                                  rotate_left
                                  · intro w'
                                    go_simp
                                    with_reducible rfl
                                  rotate_left
                                  · simp only [Act.put, List.setIfInBounds_toArray, List.set_cons_zero, List.set_cons_succ, i64_w, i32_w]
                                    rfl
                                  refine pure_ (i := 17) (N := some 111) (v := ?_) (a' := ?_) #[true, true, true, true, true, true, true, true, true, true, true, true, true, true, true, true, true, true, false] rfl rfl (any_of HT_.out (by kernel_rfl)) (fun _ _ _ h => h) (Or.inl ⟨by rfl, ?_⟩) ?_ ?_
                                  rotate_left
                                  · intro w'
                                    go_simp
                                    with_reducible rfl
                                  rotate_left
                                  · simp only [Act.put, List.setIfInBounds_toArray, List.set_cons_zero, List.set_cons_succ, i64_w, i32_w]
                                    rfl
                                  refine pure_ (i := 18) (N := some 112) (v := ?_) (a' := ?_) #[true, true, true, true, true, true, true, true, true, true, true, true, true, true, true, true, true, true, true] rfl rfl (any_of HT_.out (by kernel_rfl)) (fun _ _ _ h => h) (Or.inl ⟨by rfl, ?_⟩) ?_ ?_
                                  rotate_left
                                  · intro w'
                                    go_simp
                                    with_reducible rfl
                                  rotate_left
                                  · simp only [Act.put, List.setIfInBounds_toArray, List.set_cons_zero, List.set_cons_succ, i64_w, i32_w]
                                    rfl
                                  refine done_ (done_of HT_.out (by kernel_rfl)) ?_
                                  have p117 : 0 ≤ (x89_3 : Int) := of_decide_eq_true (by first | (with_reducible assumption) | assumption)
                                  have q117 : x89_3 < (x3_3.length : Int) := of_decide_eq_true (by first | (with_reducible assumption) | assumption)
                                  obtain ⟨ad117, e117, hx117_0, hx117_1⟩ := at_T24 (Kd.R_reads' HO_3.out).2.2 x89_3 p117 q117
                                  obtain rfl : ad112 = ad117 := (by injection e117)
                                  replace p117 := eq_true p117
                                  replace q117 := eq_true q117
                                  try go_wp2_with (first | ((with_reducible refine gate_builtin (b := .append) (xs := #[.tmp 130, .tmp 135]) rfl ?_); at_builtin; refine Kd.R_append k24 (w0 := w) w.heap.size rfl (.tmp 130) (.tmp 135) 26 24 (.agg #[(.int .u32 0), (.int .u32 0)]) 8 rfl Tryd.underlying26 info24 rfl (by decide) (by omega) (.slice (some ad113) x10_3.length co53) x10_3 (⟨(rd_T24 x3_3 x89_3).f0, (rd_T24 x3_3 x89_3).f1⟩ : S24) [.int .u32 ((rd_T24 x3_3 x89_3).f0), .int .u32 ((rd_T24 x3_3 x89_3).f1)] (fun k_ => some k_ ≠ (.slice (some ad112) x3_3.length co21 : Value).ownBlock) (fun _ => False) rfl rfl ?aP (fun _ hk => hk.elim) ?aF ?aO ?aB ?aS ?aL ?_; (case aP => exact k24_mkM _ _ _ (⟨(rd_T24 x3_3 x89_3).f0, (rd_T24 x3_3 x89_3).f1⟩ : S24)); (case aB => exact (by repeat (first | (with_reducible first | exact HB.out | apply below_alloc | apply pw_below_drewN | apply below_drew1) | exact HB.out))); (case aF => exact (fun k_ hk => Kd.fresh' (Kd.R_lt (by (with_reducible repeat (first | apply Kd.R_alloc | apply Kd.R_drewN | apply Kd.R_drew)); exact HO_3.out)) k_ hk)); (case aO => exact (by (with_reducible repeat (first | apply Kd.R_alloc | apply Kd.R_drewN | apply Kd.R_drew)); exact HO_10.out)); (case aS => exact (below_size (by repeat (first | (with_reducible first | exact HB.out | apply below_alloc | apply pw_below_drewN | apply below_drew1) | exact HB.out)))); (case aL => have := LMc52.out; omega); intro v119 w55 ho hb hg hat; rw [← Ny118.out] at ho; have n0_ := Aside0.mk (Kd.R_after (ok := (fun _ => True)) (by (with_reducible repeat (first | apply Kd.R_alloc | apply Kd.R_drewN | apply Kd.R_drew)); exact Kd.R_mono HO_3.out (fun _ hk => ⟨trivial, hk⟩)) hg hat); have n1_ := Aside0.mk (hb); have n2_ := Aside0.mk (ho); clear HO_3; clear HB; clear HO_10; have HO_3 := n0_; have HB := n1_; have HO120 := n2_; clear n0_ n1_ n2_; clear ho hb hg hat))
                                  (try simp only [← hl3_3])
                                  go_roundg k3
                                  case measure => have := HK1.out; have := HK2.out; have := HK3.out; omega
                                  case rel => exact ⟨(x3_3), (y118), (wrap64 (x89_3 + 1)), (by first | rfl | (simp; done) | (simp [*]; done)), (by first | exact H' | (rw [hji42]; exact H') | (simp only [hji42]; exact H')), ⟨by have := HK1.out; have := HK2.out; have := HK3.out; omega⟩, ⟨by (try simp only [hl3_2]); (try simp only [hl3_3]); (with_reducible repeat (first | apply Kd.R_alloc | apply Kd.R_drewN | apply Kd.R_drew)); exact Kd.R_mono HO_3.out (fun _ hk => hk.2)⟩, ⟨by (try simp only [hl3_2]); (try simp only [hl3_3]); (with_reducible repeat (first | apply Kd.R_alloc | apply Kd.R_drewN | apply Kd.R_drew)); exact HO120.out⟩, ⟨by repeat (first | (with_reducible first | exact HB.out | apply below_alloc | apply pw_below_drewN | apply below_drew1) | exact HB.out)⟩⟩
                                · rw [if_neg c52] at H
                                  exact absurd H (by simp)
                            · rw [if_neg c44] at H
                              exact absurd H (by simp)
                          · rw [if_neg c43] at H
                            exact absurd H (by simp)
                        · rw [if_neg c41] at H
                          exact absurd H (by simp)
                      · rw [if_neg c40] at H
                        exact absurd H (by simp)
                    · rw [if_neg c39] at H
                      have c39b0 : decide (0 < (x10_3.length : Int)) = false := decide_eq_false c39
                      try simp only [hl3_2] at c39b0
                      try simp only [hl3_3] at c39b0
                      have c39b1 : decide (0 < x10_3.length) = false := decide_eq_false (by omega)
                      try simp only [hl3_2] at c39b1
                      try simp only [hl3_3] at c39b1
                      clear c39
                      by_cases c56 : 0 ≤ x89_3
                      · rw [if_pos c56] at H
                        have c56b0 : decide (0 ≤ x89_3) = true := decide_eq_true c56
                        clear c56
                        by_cases c57 : x89_3 < (x3_3.length : Int)
                        · rw [if_pos c57] at H
                          have c57b0 : decide (x89_3 < (x3_3.length : Int)) = true := decide_eq_true c57
                          try simp only [hl3_2] at c57b0
                          try simp only [hl3_3] at c57b0
                          clear c57
                          by_cases c58 : x10_3.length < 17592186044416
                          · rw [if_pos c58] at H
                            have LMc58 := Aside0.mk c58
                            clear c58
                            obtain ⟨y122, hy122⟩ : ∃ y_ : List (S24), y_ = (x10_3 ++ [(⟨(rd_T24 x3_3 x89_3).f0, (rd_T24 x3_3 x89_3).f1⟩ : S24)]) := ⟨_, rfl⟩
                            replace H : (spec_Set9.l3 k3 x3_3 x4_1 x5_1 y122 (x3_2.length : Int) (wrap64 (x89_3 + 1))) = some r := by first | (rw [hy122]; with_reducible exact H) | (have H2_ := (Option.bind_some _ _).symm.trans H; rw [hy122]; with_reducible exact H2_) | (have H2_ := (Option.bind_some _ _).symm.trans H; with_reducible exact H2_) | with_reducible exact H | (rw [hy122]; exact H) | exact H
                            have Ny122 := Aside0.mk hy122
                            clear hy122
                            have H' := Aside0.mk H
                            clear H
                            obtain ⟨Ao59, co59, eo59⟩ := Kd.R_slice HO_10.out
                            subst eo59
                            try go_wp2
                            have n0_ := Aside0.mk (Kd.R_drew HO_3.out)
                            have n1_ := Aside0.mk (Kd.R_drew HO_10.out)
                            have n2_ := Aside0.mk (below_drew1 HB.out)
                            clear HO_3
                            clear HO_10
                            clear HB
                            have HO_3 := n0_
                            have HO_10 := n1_
                            have HB := n2_
                            clear n0_ n1_ n2_
                            refine start_ (n := 19) (S := fun w' => True) (ds := []) #[false, false, false, false, false, false, false, false, false, false, false, false, false, false, false, false, false, false, false] (by kernel_rfl) rfl rfl trivial (fun hHeld => ?_); refine with_tabW spec_Set9.tab27 spec_Set9.bits27 (fun HT_ HW_ => ?_)
                            generalize wr.drew = w60 at HO_3 HO_10 HB hHeld ⊢
                            refine pure_ (i := 0) (N := some 94) (v := ?_) (a' := ?_) #[true, false, false, false, false, false, false, false, false, false, false, false, false, false, false, false, false, false, false] rfl rfl (any_of HT_.out (by kernel_rfl)) (fun _ _ _ h => h) (Or.inl ⟨by rfl, ?_⟩) ?_ ?_
                            rotate_left
                            · intro w'
                              go_simp
                              with_reducible rfl
                            rotate_left
                            · simp only [Act.put, List.setIfInBounds_toArray, List.set_cons_zero, List.set_cons_succ, i64_w, i32_w]
                              rfl
                            refine pure_ (i := 1) (N := some 95) (v := ?_) (a' := ?_) #[true, true, false, false, false, false, false, false, false, false, false, false, false, false, false, false, false, false, false] rfl rfl (any_of HT_.out (by kernel_rfl)) (fun _ _ _ h => h) (Or.inl ⟨by rfl, ?_⟩) ?_ ?_
                            rotate_left
                            · intro w'
                              go_simp
                              with_reducible rfl
                            rotate_left
                            · simp only [Act.put, List.setIfInBounds_toArray, List.set_cons_zero, List.set_cons_succ, i64_w, i32_w]
                              rfl
                            refine pure_ (i := 2) (N := some 96) (v := ?_) (a' := ?_) #[true, true, true, false, false, false, false, false, false, false, false, false, false, false, false, false, false, false, false] rfl rfl (any_of HT_.out (by kernel_rfl)) (fun _ _ _ h => h) (Or.inl ⟨by rfl, ?_⟩) ?_ ?_
                            rotate_left
                            · intro w'
                              go_simp
                              with_reducible rfl
                            rotate_left
                            · simp only [Act.put, List.setIfInBounds_toArray, List.set_cons_zero, List.set_cons_succ, i64_w, i32_w]
                              rfl
                            refine pure_ (i := 3) (N := some 97) (v := undef) (a' := ?_) #[true, true, true, true, false, false, false, false, false, false, false, false, false, false, false, false, false, false, false] rfl rfl (any_of HT_.out (by kernel_rfl)) (fun _ _ _ h => h) (Or.inr ⟨by rfl, rfl⟩) ?_ ?_
                            rotate_left
                            · simp only [Act.put, List.setIfInBounds_toArray, List.set_cons_zero, List.set_cons_succ, i64_w, i32_w]
                              rfl
                            refine pure_ (i := 4) (N := some 98) (v := undef) (a' := ?_) #[true, true, true, true, true, false, false, false, false, false, false, false, false, false, false, false, false, false, false] rfl rfl (any_of HT_.out (by kernel_rfl)) (fun _ _ _ h => h) (Or.inr ⟨by rfl, rfl⟩) ?_ ?_
                            rotate_left
                            · simp only [Act.put, List.setIfInBounds_toArray, List.set_cons_zero, List.set_cons_succ, i64_w, i32_w]
                              rfl
                            refine pure_ (i := 5) (N := some 99) (v := undef) (a' := ?_) #[true, true, true, true, true, true, false, false, false, false, false, false, false, false, false, false, false, false, false] rfl rfl (any_of HT_.out (by kernel_rfl)) (fun _ _ _ h => h) (Or.inr ⟨by rfl, rfl⟩) ?_ ?_
                            rotate_left
                            · simp only [Act.put, List.setIfInBounds_toArray, List.set_cons_zero, List.set_cons_succ, i64_w, i32_w]
                              rfl
                            refine pure_ (i := 6) (N := some 100) (v := undef) (a' := ?_) #[true, true, true, true, true, true, true, false, false, false, false, false, false, false, false, false, false, false, false] rfl rfl (any_of HT_.out (by kernel_rfl)) (fun _ _ _ h => h) (Or.inr ⟨by rfl, rfl⟩) ?_ ?_
                            rotate_left
                            · simp only [Act.put, List.setIfInBounds_toArray, List.set_cons_zero, List.set_cons_succ, i64_w, i32_w]
                              rfl
                            refine pure_ (i := 7) (N := some 101) (v := undef) (a' := ?_) #[true, true, true, true, true, true, true, true, false, false, false, false, false, false, false, false, false, false, false] rfl rfl (any_of HT_.out (by kernel_rfl)) (fun _ _ _ h => h) (Or.inr ⟨by rfl, rfl⟩) ?_ ?_
                            rotate_left
                            · simp only [Act.put, List.setIfInBounds_toArray, List.set_cons_zero, List.set_cons_succ, i64_w, i32_w]
                              rfl
                            refine pure_ (i := 8) (N := some 102) (v := undef) (a' := ?_) #[true, true, true, true, true, true, true, true, true, false, false, false, false, false, false, false, false, false, false] rfl rfl (any_of HT_.out (by kernel_rfl)) (fun _ _ _ h => h) (Or.inr ⟨by rfl, rfl⟩) ?_ ?_
                            rotate_left
                            · simp only [Act.put, List.setIfInBounds_toArray, List.set_cons_zero, List.set_cons_succ, i64_w, i32_w]
                              rfl
                            refine pure_ (i := 9) (N := some 103) (v := undef) (a' := ?_) #[true, true, true, true, true, true, true, true, true, true, false, false, false, false, false, false, false, false, false] rfl rfl (any_of HT_.out (by kernel_rfl)) (fun _ _ _ h => h) (Or.inr ⟨by rfl, rfl⟩) ?_ ?_
                            rotate_left
                            · simp only [Act.put, List.setIfInBounds_toArray, List.set_cons_zero, List.set_cons_succ, i64_w, i32_w]
                              rfl
                            refine pure_ (i := 10) (N := some 104) (v := undef) (a' := ?_) #[true, true, true, true, true, true, true, true, true, true, true, false, false, false, false, false, false, false, false] rfl rfl (any_of HT_.out (by kernel_rfl)) (fun _ _ _ h => h) (Or.inr ⟨by rfl, rfl⟩) ?_ ?_
                            rotate_left
                            · simp only [Act.put, List.setIfInBounds_toArray, List.set_cons_zero, List.set_cons_succ, i64_w, i32_w]
                              rfl
                            refine pure_ (i := 11) (N := some 105) (v := undef) (a' := ?_) #[true, true, true, true, true, true, true, true, true, true, true, true, false, false, false, false, false, false, false] rfl rfl (any_of HT_.out (by kernel_rfl)) (fun _ _ _ h => h) (Or.inr ⟨by rfl, rfl⟩) ?_ ?_
                            rotate_left
                            · simp only [Act.put, List.setIfInBounds_toArray, List.set_cons_zero, List.set_cons_succ, i64_w, i32_w]
                              rfl
                            refine pure_ (i := 12) (N := some 106) (v := undef) (a' := ?_) #[true, true, true, true, true, true, true, true, true, true, true, true, true, false, false, false, false, false, false] rfl rfl (any_of HT_.out (by kernel_rfl)) (fun _ _ _ h => h) (Or.inr ⟨by rfl, rfl⟩) ?_ ?_
                            rotate_left
                            · simp only [Act.put, List.setIfInBounds_toArray, List.set_cons_zero, List.set_cons_succ, i64_w, i32_w]
                              rfl
                            refine pure_ (i := 13) (N := some 107) (v := undef) (a' := ?_) #[true, true, true, true, true, true, true, true, true, true, true, true, true, true, false, false, false, false, false] rfl rfl (any_of HT_.out (by kernel_rfl)) (fun _ _ _ h => h) (Or.inr ⟨by rfl, rfl⟩) ?_ ?_
                            rotate_left
                            · simp only [Act.put, List.setIfInBounds_toArray, List.set_cons_zero, List.set_cons_succ, i64_w, i32_w]
                              rfl
                            refine pure_ (i := 14) (N := some 108) (v := undef) (a' := ?_) #[true, true, true, true, true, true, true, true, true, true, true, true, true, true, true, false, false, false, false] rfl rfl (any_of HT_.out (by kernel_rfl)) (fun _ _ _ h => h) (Or.inr ⟨by rfl, rfl⟩) ?_ ?_
                            rotate_left
                            · simp only [Act.put, List.setIfInBounds_toArray, List.set_cons_zero, List.set_cons_succ, i64_w, i32_w]
                              rfl
                            refine pure_ (i := 15) (N := some 109) (v := undef) (a' := ?_) #[true, true, true, true, true, true, true, true, true, true, true, true, true, true, true, true, false, false, false] rfl rfl (any_of HT_.out (by kernel_rfl)) (fun _ _ _ h => h) (Or.inr ⟨by rfl, rfl⟩) ?_ ?_
                            rotate_left
                            · simp only [Act.put, List.setIfInBounds_toArray, List.set_cons_zero, List.set_cons_succ, i64_w, i32_w]
                              rfl
                            refine pure_ (i := 16) (N := some 110) (v := undef) (a' := ?_) #[true, true, true, true, true, true, true, true, true, true, true, true, true, true, true, true, true, false, false] rfl rfl (any_of HT_.out (by kernel_rfl)) (fun _ _ _ h => h) (Or.inr ⟨by rfl, rfl⟩) ?_ ?_
                            rotate_left
                            · simp only [Act.put, List.setIfInBounds_toArray, List.set_cons_zero, List.set_cons_succ, i64_w, i32_w]
                              rfl
                            refine pure_ (i := 17) (N := some 111) (v := undef) (a' := ?_) #[true, true, true, true, true, true, true, true, true, true, true, true, true, true, true, true, true, true, false] rfl rfl (any_of HT_.out (by kernel_rfl)) (fun _ _ _ h => h) (Or.inr ⟨by rfl, rfl⟩) ?_ ?_
                            rotate_left
                            · simp only [Act.put, List.setIfInBounds_toArray, List.set_cons_zero, List.set_cons_succ, i64_w, i32_w]
                              rfl
                            refine pure_ (i := 18) (N := some 112) (v := ?_) (a' := ?_) #[true, true, true, true, true, true, true, true, true, true, true, true, true, true, true, true, true, true, true] rfl rfl (any_of HT_.out (by kernel_rfl)) (fun _ _ _ h => h) (Or.inl ⟨by rfl, ?_⟩) ?_ ?_
                            rotate_left
                            · intro w'
                              go_simp
                              with_reducible rfl
                            rotate_left
                            · simp only [Act.put, List.setIfInBounds_toArray, List.set_cons_zero, List.set_cons_succ, i64_w, i32_w]
                              rfl
                            refine done_ (done_of HT_.out (by kernel_rfl)) ?_
                            have p121 : 0 ≤ (x89_3 : Int) := of_decide_eq_true (by first | (with_reducible assumption) | assumption)
                            have q121 : x89_3 < (x3_3.length : Int) := of_decide_eq_true (by first | (with_reducible assumption) | assumption)
                            obtain ⟨ad121, e121, hx121_0, hx121_1⟩ := at_T24 (Kd.R_reads' HO_3.out).2.2 x89_3 p121 q121
                            cases e121
                            replace p121 := eq_true p121
                            replace q121 := eq_true q121
                            try go_wp2_with (first | ((with_reducible refine gate_builtin (b := .append) (xs := #[.tmp 130, .tmp 135]) rfl ?_); at_builtin; refine Kd.R_append k24 (w0 := w) w.heap.size rfl (.tmp 130) (.tmp 135) 26 24 (.agg #[(.int .u32 0), (.int .u32 0)]) 8 rfl Tryd.underlying26 info24 rfl (by decide) (by omega) (.slice Ao59 x10_3.length co59) x10_3 (⟨(rd_T24 x3_3 x89_3).f0, (rd_T24 x3_3 x89_3).f1⟩ : S24) [.int .u32 ((rd_T24 x3_3 x89_3).f0), .int .u32 ((rd_T24 x3_3 x89_3).f1)] (fun k_ => some k_ ≠ (.slice (some ad121) x3_3.length co21 : Value).ownBlock) (fun _ => False) rfl rfl ?aP (fun _ hk => hk.elim) ?aF ?aO ?aB ?aS ?aL ?_; (case aP => exact k24_mkM _ _ _ (⟨(rd_T24 x3_3 x89_3).f0, (rd_T24 x3_3 x89_3).f1⟩ : S24)); (case aB => exact (by repeat (first | (with_reducible first | exact HB.out | apply below_alloc | apply pw_below_drewN | apply below_drew1) | exact HB.out))); (case aF => exact (fun k_ hk => Kd.fresh' (Kd.R_lt (by (with_reducible repeat (first | apply Kd.R_alloc | apply Kd.R_drewN | apply Kd.R_drew)); exact HO_3.out)) k_ hk)); (case aO => exact (by (with_reducible repeat (first | apply Kd.R_alloc | apply Kd.R_drewN | apply Kd.R_drew)); exact HO_10.out)); (case aS => exact (below_size (by repeat (first | (with_reducible first | exact HB.out | apply below_alloc | apply pw_below_drewN | apply below_drew1) | exact HB.out)))); (case aL => have := LMc58.out; omega); intro v123 w61 ho hb hg hat; rw [← Ny122.out] at ho; have n0_ := Aside0.mk (Kd.R_after (ok := (fun _ => True)) (by (with_reducible repeat (first | apply Kd.R_alloc | apply Kd.R_drewN | apply Kd.R_drew)); exact Kd.R_mono HO_3.out (fun _ hk => ⟨trivial, hk⟩)) hg hat); have n1_ := Aside0.mk (hb); have n2_ := Aside0.mk (ho); clear HO_3; clear HB; clear HO_10; have HO_3 := n0_; have HB := n1_; have HO124 := n2_; clear n0_ n1_ n2_; clear ho hb hg hat))
                            (try simp only [← hl3_3])
                            go_roundg k3
                            case measure => have := HK1.out; have := HK2.out; have := HK3.out; omega
                            case rel => exact ⟨(x3_3), (y122), (wrap64 (x89_3 + 1)), (by first | rfl | (simp; done) | (simp [*]; done)), H', ⟨by have := HK1.out; have := HK2.out; have := HK3.out; omega⟩, ⟨by (try simp only [hl3_2]); (try simp only [hl3_3]); (with_reducible repeat (first | apply Kd.R_alloc | apply Kd.R_drewN | apply Kd.R_drew)); exact Kd.R_mono HO_3.out (fun _ hk => hk.2)⟩, ⟨by (try simp only [hl3_2]); (try simp only [hl3_3]); (with_reducible repeat (first | apply Kd.R_alloc | apply Kd.R_drewN | apply Kd.R_drew)); exact HO124.out⟩, ⟨by repeat (first | (with_reducible first | exact HB.out | apply below_alloc | apply pw_below_drewN | apply below_drew1) | exact HB.out)⟩⟩
                          · rw [if_neg c58] at H
                            exact absurd H (by simp)
                        · rw [if_neg c57] at H
                          exact absurd H (by simp)
                      · rw [if_neg c56] at H
                        exact absurd H (by simp)
                  · rw [if_neg c38] at H
                    have c38b0 : decide (x89_3 < (x3_2.length : Int)) = false := decide_eq_false c38
                    try simp only [hl3_2] at c38b0
                    try simp only [hl3_3] at c38b0
                    clear c38
                    by_cases c62 : x5_1 > 0
                    · rw [if_pos c62] at H
                      have c62b0 : decide (0 < x5_1) = true := decide_eq_true c62
                      clear c62
                      have H' := Aside0.mk H
                      clear H
                      obtain ⟨Ao63, co63, eo63⟩ := Kd.R_slice HO_10.out
                      subst eo63
                      go_wp2
                      go_loopg [5, 10, 13] k3 (fun kq v5 v10 v13 w' => ∃ (x5_4 : Int) (x10_4 : List (S24)) (x13_4 : Int), v5 = .int .u32 x5_4 ∧ v13 = .int .i64 x13_4 ∧ Aside0 (spec_Set9.l4 kq x5_4 x10_4 x13_4 = some r) ∧ Aside0 (kq ≤ k3) ∧ Aside0 (Kd.R k24 24 w' w.heap.size (fun _ => True) v10 x10_4) ∧ Aside0 (Below w.heap.size w w'))
                      case atStart => exact ⟨(x5_1), (x10_3), ((x10_3.length : Int)), (by first | rfl | (simp; done) | (simp [*]; done)), (by first | rfl | (simp; done) | (simp [*]; done)), H', ⟨Nat.le_refl _⟩, ⟨by (try simp only [hl3_2]); (try simp only [hl3_3]); (with_reducible repeat (first | apply Kd.R_alloc | apply Kd.R_drewN | apply Kd.R_drew)); exact Kd.R_mono HO_10.out (fun _ hk => trivial)⟩, ⟨by repeat (first | (with_reducible first | exact HB.out | apply below_alloc | apply pw_below_drewN | apply below_drew1) | exact HB.out)⟩⟩
                      case round =>
                        clear H'
                        try clear p1
                        try clear q1
                        try clear hx1
                        try clear p2
                        try clear c3
                        try clear c4
                        try clear p4
                        try clear q4
                        try clear hx4
                        try clear hf4
                        try clear c5
                        try clear c6
                        try clear p6
                        try clear p11
                        try clear q11
                        try clear hx11
                        try clear p12
                        try clear q12
                        try clear hx12
                        try clear c38
                        try clear c38b0
                        try clear c39
                        try clear c39b0
                        try clear c39b1
                        try clear c40
                        try clear c41
                        try clear c43
                        try clear c44
                        try clear c45
                        try clear c45b0
                        try clear c47
                        try clear p47
                        try clear q47
                        try clear hx47
                        try clear hf47
                        try clear c51
                        try clear c52
                        try clear c56
                        try clear c56b0
                        try clear c57
                        try clear c57b0
                        try clear c58
                        try clear c62
                        try clear c62b0
                        try clear hx112_0
                        try clear hx112_1
                        try clear hx113_0
                        try clear hx113_1
                        try clear hx114_0
                        try clear hx114_1
                        try clear hx115_0
                        try clear hx115_1
                        try clear hx117_0
                        try clear hx117_1
                        try clear hx121_0
                        try clear hx121_1
                        try clear hx47_0
                        try clear hx47_1
                        try clear p112
                        try clear p113
                        try clear p114
                        try clear p115
                        try clear p117
                        try clear p121
                        try clear p47
                        try clear q112
                        try clear q113
                        try clear q114
                        try clear q115
                        try clear q117
                        try clear q121
                        try clear q47
                        obtain ⟨x5_4, x10_4, x13_4, rfl, rfl, HA, HK4, HO_10, HB⟩ := hrel
                        cases gk with
                        | zero => exact absurd HA.out (by simp [spec_Set9.l4])
                        | succ k4 =>
                          have H := HA.out
                          clear HA
                          simp only [spec_Set9.l4] at H
                          by_cases c64 : x13_4 > 0
                          · rw [if_pos c64] at H
                            have c64b0 : decide (0 < x13_4) = true := decide_eq_true c64
                            clear c64
                            obtain ⟨ji65, hji65⟩ : ∃ j_ : Int, (wrap64 (x13_4 - 1)) = j_ := ⟨_, rfl⟩
                            replace H : (if 0 ≤ (ji65) then (if (ji65) < (x10_4.length : Int) then (if (IntKind.u64.wrap ((IntKind.u64.wrap ((rd_T24 x10_4 (ji65)).f1)) + 1)) ≥ (IntKind.u64.wrap (x5_4)) then (if (ji65) ≤ (x10_4.length : Int) then ((some (x10_4.take ((ji65) : Int).toNat : List (S24))).bind fun y127 => (spec_Set9.l4 k4 (mn x5_4 ((rd_T24 x10_4 (ji65)).f0)) y127 (y127.length : Int))) else (none)) else (if x10_4.length < 17592186044416 then (some (x10_4 ++ [(⟨x5_4, 0⟩ : S24)])) else (none))) else (none)) else (none)) = some r := by first | (rw [hji65] at H; exact H) | (simp only [hji65] at H ⊢; exact H)
                            have hji65w : (IntKind.i64.wrap (x13_4 - 1)) = ji65 := (i64_w _).trans hji65
                            by_cases c66 : 0 ≤ (ji65)
                            · rw [if_pos c66] at H
                              have c66b0 : decide (0 ≤ (ji65)) = true := decide_eq_true c66
                              clear c66
                              by_cases c67 : (ji65) < (x10_4.length : Int)
                              · rw [if_pos c67] at H
                                have c67b0 : decide ((ji65) < (x10_4.length : Int)) = true := decide_eq_true c67
                                try simp only [hl3_2] at c67b0
                                try simp only [hl3_3] at c67b0
                                clear c67
                                by_cases c68 : (IntKind.u64.wrap ((IntKind.u64.wrap ((rd_T24 x10_4 (ji65)).f1)) + 1)) ≥ (IntKind.u64.wrap (x5_4))
                                · rw [if_pos c68] at H
                                  have c68b0 : decide ((IntKind.u64.wrap (x5_4)) ≤ (IntKind.u64.wrap ((IntKind.u64.wrap ((rd_T24 x10_4 (ji65)).f1)) + 1))) = true := decide_eq_true c68
                                  clear c68
                                  obtain ⟨ji69, hji69⟩ : ∃ j_ : Int, (mn x5_4 ((rd_T24 x10_4 (ji65)).f0)) = j_ := ⟨_, rfl⟩
                                  replace H : (if (ji65) ≤ (x10_4.length : Int) then ((some (x10_4.take ((ji65) : Int).toNat : List (S24))).bind fun y127 => (spec_Set9.l4 k4 ji69 y127 (y127.length : Int))) else (none)) = some r := by first | (rw [hji69] at H; exact H) | (simp only [hji69] at H ⊢; exact H)
                                  have hji69_ : (if ((rd_T24 x10_4 (ji65)).f0) < x5_4 then ((rd_T24 x10_4 (ji65)).f0) else x5_4) = ji69 := hji69
                                  by_cases c70 : (ji65) ≤ (x10_4.length : Int)
                                  · rw [if_pos c70] at H
                                    have c70b0 := eq_true c70
                                    have c70b1 : decide ((ji65) ≤ (x10_4.length : Int)) = true := decide_eq_true c70
                                    try simp only [hl3_2] at c70b1
                                    try simp only [hl3_3] at c70b1
                                    clear c70
                                    obtain ⟨y127, hy127⟩ : ∃ y_ : List (S24), y_ = (x10_4.take ((ji65) : Int).toNat) := ⟨_, rfl⟩
                                    replace H : (spec_Set9.l4 k4 ji69 y127 (y127.length : Int)) = some r := by first | (rw [hy127]; with_reducible exact H) | (have H2_ := (Option.bind_some _ _).symm.trans H; rw [hy127]; with_reducible exact H2_) | (have H2_ := (Option.bind_some _ _).symm.trans H; with_reducible exact H2_) | with_reducible exact H | (rw [hy127]; exact H) | exact H
                                    have Ny127 := Aside0.mk hy127
                                    clear hy127
                                    have H' := Aside0.mk H
                                    clear H
                                    obtain ⟨Ao71, co71, eo71⟩ := Kd.R_slice HO_10.out
                                    subst eo71
                                    have p125 : 0 ≤ ((ji65) : Int) := of_decide_eq_true (by first | (with_reducible assumption) | assumption)
                                    have q125 : (ji65) < (x10_4.length : Int) := of_decide_eq_true (by first | (with_reducible assumption) | assumption)
                                    obtain ⟨ad125, e125, hx125_0, hx125_1⟩ := at_T24 (Kd.R_reads' HO_10.out).2.2 (ji65) p125 q125
                                    cases e125
                                    replace p125 := eq_true p125
                                    replace q125 := eq_true q125
                                    have p126 : 0 ≤ ((ji65) : Int) := of_decide_eq_true (by first | (with_reducible assumption) | assumption)
                                    have q126 : (ji65) < (x10_4.length : Int) := of_decide_eq_true (by first | (with_reducible assumption) | assumption)
                                    obtain ⟨ad126, e126, hx126_0, hx126_1⟩ := at_T24 (Kd.R_reads' HO_10.out).2.2 (ji65) p126 q126
                                    obtain rfl : ad125 = ad126 := (by injection e126)
                                    replace p126 := eq_true p126
                                    replace q126 := eq_true q126
                                    have q72 : ((ji65) : Int) ≤ ((x10_4.length : Int) : Int) := of_decide_eq_true (by first | (with_reducible assumption) | assumption)
                                    obtain ⟨i072, hi072, _, hsz72, _⟩ := info_parts info24
                                    have hcut72 := cut_to (P := Tryd.prog) 26 24 .i64 Tryd.underlying26 hi072 (some ad125) x10_4.length co71 (ji65) (of_decide_eq_true (by first | (with_reducible assumption) | assumption)) q72 (Kd.R_reads' HO_10.out).2.1
                                    have hr72 := Kd.R_take (m := ((ji65) : Int).toNat) HO_10.out (by omega)
                                    have hy72 : y127.length = ((ji65) : Int).toNat := (by rw [Ny127.out, List.length_take]; omega)
                                    rw [← Ny127.out] at hr72
                                    rw [← hy72] at hr72 hcut72
                                    clear hy72 hi072 hsz72 HO_10
                                    have HO129 := Aside0.mk hr72
                                    clear hr72
                                    replace q72 := eq_true q72
                                    go_wp2
                                    go_roundg k4
                                    case measure => have := HK1.out; have := HK2.out; have := HK3.out; have := HK4.out; omega
                                    case rel => exact ⟨(ji69), (y127), ((y127.length : Int)), (by first | rfl | (simp; done) | (simp only [← hji69] <;> (first | rfl | simp)) | (simp [*]; done)), (by first | rfl | (simp; done) | (simp [*]; done)), (by first | exact H' | (rw [hji65, hji69]; exact H') | (simp only [hji65, hji69]; exact H')), ⟨by have := HK1.out; have := HK2.out; have := HK3.out; have := HK4.out; omega⟩, ⟨by (try simp only [hl3_2]); (try simp only [hl3_3]); (with_reducible repeat (first | apply Kd.R_alloc | apply Kd.R_drewN | apply Kd.R_drew)); exact HO129.out⟩, ⟨by repeat (first | (with_reducible first | exact HB.out | apply below_alloc | apply pw_below_drewN | apply below_drew1) | exact HB.out)⟩⟩
                                  · rw [if_neg c70] at H
                                    exact absurd H (by simp)
                                · rw [if_neg c68] at H
                                  have c68b0 : decide ((IntKind.u64.wrap (x5_4)) ≤ (IntKind.u64.wrap ((IntKind.u64.wrap ((rd_T24 x10_4 (ji65)).f1)) + 1))) = false := decide_eq_false c68
                                  clear c68
                                  by_cases c73 : x10_4.length < 17592186044416
                                  · rw [if_pos c73] at H
                                    have LMc73 := Aside0.mk c73
                                    clear c73
                                    obtain ⟨y130, hy130⟩ : ∃ y_ : List (S24), y_ = (x10_4 ++ [(⟨x5_4, 0⟩ : S24)]) := ⟨_, rfl⟩
                                    replace H : (some y130) = some r := by first | (rw [hy130]; with_reducible exact H) | (have H2_ := (Option.bind_some _ _).symm.trans H; rw [hy130]; with_reducible exact H2_) | (have H2_ := (Option.bind_some _ _).symm.trans H; with_reducible exact H2_) | with_reducible exact H | (rw [hy130]; exact H) | exact H
                                    have Ny130 := Aside0.mk hy130
                                    clear hy130
                                    obtain rfl := Option.some.inj H
                                    obtain ⟨Ao74, co74, eo74⟩ := Kd.R_slice HO_10.out
                                    subst eo74
                                    have p125 : 0 ≤ ((ji65) : Int) := of_decide_eq_true (by first | (with_reducible assumption) | assumption)
                                    have q125 : (ji65) < (x10_4.length : Int) := of_decide_eq_true (by first | (with_reducible assumption) | assumption)
                                    obtain ⟨ad125, e125, hx125_0, hx125_1⟩ := at_T24 (Kd.R_reads' HO_10.out).2.2 (ji65) p125 q125
                                    cases e125
                                    replace p125 := eq_true p125
                                    replace q125 := eq_true q125
                                    go_wp2_with (first | ((with_reducible refine gate_builtin (b := .append) (xs := #[.tmp 171, .tmp 174]) rfl ?_); at_builtin; refine Kd.R_append k24 (w0 := w) w.heap.size rfl (.tmp 171) (.tmp 174) 26 24 (.agg #[(.int .u32 0), (.int .u32 0)]) 8 rfl Tryd.underlying26 info24 rfl (by decide) (by omega) (.slice (some ad125) x10_4.length co74) x10_4 (⟨x5_4, 0⟩ : S24) [.int .u32 x5_4, .int .u32 0] (fun _ => True) (fun _ => False) rfl rfl ?aP (fun _ hk => hk.elim) ?aF ?aO ?aB ?aS ?aL ?_; (case aP => exact k24_mkM _ _ _ (⟨x5_4, 0⟩ : S24)); (case aB => exact (by repeat (first | (with_reducible first | exact HB.out | apply below_alloc | apply pw_below_drewN | apply below_drew1) | exact HB.out))); (case aF => exact (fun _ _ => trivial)); (case aO => exact (by (with_reducible repeat (first | apply Kd.R_alloc | apply Kd.R_drewN | apply Kd.R_drew)); exact HO_10.out)); (case aS => exact (below_size (by repeat (first | (with_reducible first | exact HB.out | apply below_alloc | apply pw_below_drewN | apply below_drew1) | exact HB.out)))); (case aL => have := LMc73.out; omega); intro v131 w75 ho hb hg hat; rw [← Ny130.out] at ho; have n0_ := Aside0.mk (hb); have n1_ := Aside0.mk (ho); clear HB; clear HO_10; have HB := n0_; have HO132 := n1_; clear n0_ n1_; clear ho hb hg hat))
                                    go_ret
                                    exact ⟨_, by first | rfl | (simp [errW_none, errW_some] <;> rfl) | (simp only [← hji65]; first | rfl | (simp [errW_none, errW_some] <;> rfl)) | (simp [*, errW_none, errW_some] <;> rfl), by (with_reducible repeat (first | apply Kd.R_alloc | apply Kd.R_drewN | apply Kd.R_drew)); exact HO132.out, by repeat (first | (with_reducible first | exact HB.out | apply below_alloc | apply pw_below_drewN | apply below_drew1) | exact HB.out)⟩
                                  · rw [if_neg c73] at H
                                    exact absurd H (by simp)
                              · rw [if_neg c67] at H
                                exact absurd H (by simp)
                            · rw [if_neg c66] at H
                              exact absurd H (by simp)
                          · rw [if_neg c64] at H
                            have c64b0 : decide (0 < x13_4) = false := decide_eq_false c64
                            clear c64
                            by_cases c76 : x10_4.length < 17592186044416
                            · rw [if_pos c76] at H
                              have LMc76 := Aside0.mk c76
                              clear c76
                              obtain ⟨y133, hy133⟩ : ∃ y_ : List (S24), y_ = (x10_4 ++ [(⟨x5_4, 0⟩ : S24)]) := ⟨_, rfl⟩
                              replace H : (some y133) = some r := by first | (rw [hy133]; with_reducible exact H) | (have H2_ := (Option.bind_some _ _).symm.trans H; rw [hy133]; with_reducible exact H2_) | (have H2_ := (Option.bind_some _ _).symm.trans H; with_reducible exact H2_) | with_reducible exact H | (rw [hy133]; exact H) | exact H
                              have Ny133 := Aside0.mk hy133
                              clear hy133
                              obtain rfl := Option.some.inj H
                              go_wp2_with (first | ((with_reducible refine gate_builtin (b := .append) (xs := #[.tmp 171, .tmp 174]) rfl ?_); at_builtin; refine Kd.R_append k24 (w0 := w) w.heap.size rfl (.tmp 171) (.tmp 174) 26 24 (.agg #[(.int .u32 0), (.int .u32 0)]) 8 rfl Tryd.underlying26 info24 rfl (by decide) (by omega) u10 x10_4 (⟨x5_4, 0⟩ : S24) [.int .u32 x5_4, .int .u32 0] (fun _ => True) (fun _ => False) rfl rfl ?aP (fun _ hk => hk.elim) ?aF ?aO ?aB ?aS ?aL ?_; (case aP => exact k24_mkM _ _ _ (⟨x5_4, 0⟩ : S24)); (case aB => exact (by repeat (first | (with_reducible first | exact HB.out | apply below_alloc | apply pw_below_drewN | apply below_drew1) | exact HB.out))); (case aF => exact (fun _ _ => trivial)); (case aO => exact (by (with_reducible repeat (first | apply Kd.R_alloc | apply Kd.R_drewN | apply Kd.R_drew)); exact HO_10.out)); (case aS => exact (below_size (by repeat (first | (with_reducible first | exact HB.out | apply below_alloc | apply pw_below_drewN | apply below_drew1) | exact HB.out)))); (case aL => have := LMc76.out; omega); intro v134 w77 ho hb hg hat; rw [← Ny133.out] at ho; have n0_ := Aside0.mk (hb); have n1_ := Aside0.mk (ho); clear HB; clear HO_10; have HB := n0_; have HO135 := n1_; clear n0_ n1_; clear ho hb hg hat))
                              go_ret
                              exact ⟨_, by first | rfl | (simp [errW_none, errW_some] <;> rfl) | (simp [*, errW_none, errW_some] <;> rfl), by (with_reducible repeat (first | apply Kd.R_alloc | apply Kd.R_drewN | apply Kd.R_drew)); exact HO135.out, by repeat (first | (with_reducible first | exact HB.out | apply below_alloc | apply pw_below_drewN | apply below_drew1) | exact HB.out)⟩
                            · rw [if_neg c76] at H
                              exact absurd H (by simp)
                    · rw [if_neg c62] at H
                      have c62b0 : decide (0 < x5_1) = false := decide_eq_false c62
                      clear c62
                      by_cases c78 : x4_1 = true
                      · subst c78
                        have H1 : (if x10_3.length < 17592186044416 then (some (x10_3 ++ [(⟨0, 0⟩ : S24)])) else (none)) = some r := by rw [if_pos rfl] at H; exact H
                        clear H
                        have H := H1
                        clear H1
                        by_cases c79 : x10_3.length < 17592186044416
                        · rw [if_pos c79] at H
                          have LMc79 := Aside0.mk c79
                          clear c79
                          obtain ⟨y136, hy136⟩ : ∃ y_ : List (S24), y_ = (x10_3 ++ [(⟨0, 0⟩ : S24)]) := ⟨_, rfl⟩
                          replace H : (some y136) = some r := by first | (rw [hy136]; with_reducible exact H) | (have H2_ := (Option.bind_some _ _).symm.trans H; rw [hy136]; with_reducible exact H2_) | (have H2_ := (Option.bind_some _ _).symm.trans H; with_reducible exact H2_) | with_reducible exact H | (rw [hy136]; exact H) | exact H
                          have Ny136 := Aside0.mk hy136
                          clear hy136
                          obtain rfl := Option.some.inj H
                          go_wp2_with (first | ((with_reducible refine gate_builtin (b := .append) (xs := #[.tmp 177, .tmp 179]) rfl ?_); at_builtin; refine Kd.R_append k24 (w0 := w) w.heap.size rfl (.tmp 177) (.tmp 179) 26 24 (.agg #[(.int .u32 0), (.int .u32 0)]) 8 rfl Tryd.underlying26 info24 rfl (by decide) (by omega) u10 x10_3 (⟨0, 0⟩ : S24) [.int .u32 0, .int .u32 0] (fun k_ => some k_ ≠ (.slice Ao21 x3_3.length co21 : Value).ownBlock) (fun _ => False) rfl rfl ?aP (fun _ hk => hk.elim) ?aF ?aO ?aB ?aS ?aL ?_; (case aP => exact k24_mkM _ _ _ (⟨0, 0⟩ : S24)); (case aB => exact (by repeat (first | (with_reducible first | exact HB.out | apply below_alloc | apply pw_below_drewN | apply below_drew1) | exact HB.out))); (case aF => exact (fun k_ hk => Kd.fresh' (Kd.R_lt (by (with_reducible repeat (first | apply Kd.R_alloc | apply Kd.R_drewN | apply Kd.R_drew)); exact HO_3.out)) k_ hk)); (case aO => exact (by (with_reducible repeat (first | apply Kd.R_alloc | apply Kd.R_drewN | apply Kd.R_drew)); exact HO_10.out)); (case aS => exact (below_size (by repeat (first | (with_reducible first | exact HB.out | apply below_alloc | apply pw_below_drewN | apply below_drew1) | exact HB.out)))); (case aL => have := LMc79.out; omega); intro v137 w80 ho hb hg hat; rw [← Ny136.out] at ho; have n0_ := Aside0.mk (Kd.R_after (ok := (fun _ => True)) (by (with_reducible repeat (first | apply Kd.R_alloc | apply Kd.R_drewN | apply Kd.R_drew)); exact Kd.R_mono HO_3.out (fun _ hk => ⟨trivial, hk⟩)) hg hat); have n1_ := Aside0.mk (hb); have n2_ := Aside0.mk (ho); clear HO_3; clear HB; clear HO_10; have HO_3 := n0_; have HB := n1_; have HO138 := n2_; clear n0_ n1_ n2_; clear ho hb hg hat))
                          go_ret
                          exact ⟨_, by first | rfl | (simp [errW_none, errW_some] <;> rfl) | (simp [*, errW_none, errW_some] <;> rfl), by (with_reducible repeat (first | apply Kd.R_alloc | apply Kd.R_drewN | apply Kd.R_drew)); exact Kd.R_mono HO138.out (fun _ hk => trivial), by repeat (first | (with_reducible first | exact HB.out | apply below_alloc | apply pw_below_drewN | apply below_drew1) | exact HB.out)⟩
                        · rw [if_neg c79] at H
                          exact absurd H (by simp)
                      · replace c78 := Bool.eq_false_iff.mpr c78
                        subst c78
                        have H1 : (some x10_3) = some r := by rw [if_neg (show ¬ (false = true) by decide)] at H; exact H
                        clear H
                        have H := H1
                        clear H1
                        obtain rfl := Option.some.inj H
                        go_wp2
                        go_ret
                        exact ⟨_, by first | rfl | (simp [errW_none, errW_some] <;> rfl) | (simp [*, errW_none, errW_some] <;> rfl), by (with_reducible repeat (first | apply Kd.R_alloc | apply Kd.R_drewN | apply Kd.R_drew)); exact Kd.R_mono HO_10.out (fun _ hk => trivial), by repeat (first | (with_reducible first | exact HB.out | apply below_alloc | apply pw_below_drewN | apply below_drew1) | exact HB.out)⟩

end Go.Proofs.YtajifebphcgcpaaDoor.PFnSeqOf
