-- Printed for this claim by a copy of the kit's print that takes hand-proved callees (wip/patch_print.py).
import Derived.Test.YtoeggcckcnlllaaDoorPFnXtextx0
namespace Go.Proofs.YtoeggcckcnlllaaDoor.PFnXtext
open Go.RowKit Go.Proofs.YtoeggcckcnlllaaDoorW.PrintWords Go.Proofs.YtoeggcckcnlllaaDoorW.PrintLast Go.Proofs.YtoeggcckcnlllaaDoorW.PrintMore
attribute [local go_sem] max2_int min2_int max_two min_two max_three min_three max_four min_four   -- for this text's walks alone
set_option linter.unusedVariables false
set_option linter.unusedSimpArgs false

/-! ### spec_plainX: function 9 -/
def spec_plainX.f (a0 : Int) : Option (Bool) := if a0 ≥ 33 then (if a0 ≤ 126 then (if a0 = 43 then (some false) else (some (a0 != 61))) else (some false)) else (some false)
set_option maxHeartbeats 8000000 in
set_option maxRecDepth 100000 in
theorem spec_plainX.calls (a0 : Int) (r : Bool) (w : World) (h : spec_plainX.f a0 = some r) :
    Calls Tryd.prog 9 #[.int .u8 a0] w fun e w' => e = .returned (.bool r) ∧ Drawn0 w w' := by
  have H : (if a0 ≥ 33 then (if a0 ≤ 126 then (if a0 = 43 then (some false) else (some (a0 != 61))) else (some false)) else (some false)) = some r := h
  clear h
  by_cases c2 : a0 ≥ 33
  · rw [if_pos c2] at H
    have c2b0 : decide (33 ≤ a0) = true := decide_eq_true c2
    clear c2
    by_cases c3 : a0 ≤ 126
    · rw [if_pos c3] at H
      have c3b0 : decide (a0 ≤ 126) = true := decide_eq_true c3
      clear c3
      by_cases c4 : a0 = 43
      · rw [if_pos c4] at H
        have c4b0 : (a0 == 43) = true := beq_iff_eq.mpr c4
        have c4b1 : (a0 != 43) = false := bne_eq_false_iff_eq.mpr c4
        clear c4
        obtain rfl := Option.some.inj H
        go_enter Tryd.func9, Tryd.ntmps9
        go_wp2
        go_ret
        exact ⟨by first | rfl | (simp; done) | (simp [*]; done), by repeat (first | exact Drawn0.refl _ | apply Drawn0.step)⟩
      · rw [if_neg c4] at H
        have c4b0 : (a0 == 43) = false := beq_eq_false_iff_ne.mpr c4
        have c4b1 : (a0 != 43) = true := bne_iff_ne.mpr c4
        obtain rfl := Option.some.inj H
        go_enter Tryd.func9, Tryd.ntmps9
        go_wp2
        go_ret
        exact ⟨by first | rfl | (simp; done) | (simp [*]; done), by repeat (first | exact Drawn0.refl _ | apply Drawn0.step)⟩
    · rw [if_neg c3] at H
      have c3b0 : decide (a0 ≤ 126) = false := decide_eq_false c3
      clear c3
      obtain rfl := Option.some.inj H
      go_enter Tryd.func9, Tryd.ntmps9
      go_wp2
      go_ret
      exact ⟨by first | rfl | (simp; done) | (simp [*]; done), by repeat (first | exact Drawn0.refl _ | apply Drawn0.step)⟩
  · rw [if_neg c2] at H
    have c2b0 : decide (33 ≤ a0) = false := decide_eq_false c2
    clear c2
    obtain rfl := Option.some.inj H
    go_enter Tryd.func9, Tryd.ntmps9
    go_wp2
    go_ret
    exact ⟨by first | rfl | (simp; done) | (simp [*]; done), by repeat (first | exact Drawn0.refl _ | apply Drawn0.step)⟩

/-! ### spec_Xtext: function 7 -/
def spec_Xtext.l0 : Nat → ByteArray → ByteArray → Int → Option (ByteArray × Bool)
  | 0, _, _, _ => none
  | k + 1, x0, x2, x4 => if x4 < (x0.size : Int) then (if 0 ≤ x4 then ((spec_plainX.f (bt x0 x4)).bind fun t101 => (if t101 = true then (if x4 ≤ (wrap64 (x4 + 1)) then (if (wrap64 (x4 + 1)) ≤ (x0.size : Int) then (if x2.size + (x0.extract (x4 : Int).toNat ((wrap64 (x4 + 1)) : Int).toNat).size ≤ 9223372036854775807 then (spec_Xtext.l0 k x0 (x2 ++ (x0.extract (x4 : Int).toNat ((wrap64 (x4 + 1)) : Int).toNat)) (wrap64 (x4 + 1))) else (none)) else (none)) else (none)) else (if (bt x0 x4) < 16 then (some ((⟨#[]⟩ : ByteArray), false)) else (if (bt x0 x4) ≥ 128 then (some ((⟨#[]⟩ : ByteArray), false)) else (if 0 ≤ ((bt x0 x4) / 16) then (if ((bt x0 x4) / 16) < 16 then (if 0 ≤ (Go.bits .and .u8 (bt x0 x4) 15) then (if (Go.bits .and .u8 (bt x0 x4) 15) < 16 then ((some (([bt (⟨#[48, 49, 50, 51, 52, 53, 54, 55, 56, 57, 65, 66, 67, 68, 69, 70]⟩ : ByteArray) ((bt x0 x4) / 16), bt (⟨#[48, 49, 50, 51, 52, 53, 54, 55, 56, 57, 65, 66, 67, 68, 69, 70]⟩ : ByteArray) (Go.bits .and .u8 (bt x0 x4) 15)] : List Int) : List Int)).bind fun y102 => (if 1 + (strOfNums y102).size ≤ 9223372036854775807 then (if x2.size + ((⟨#[43]⟩ : ByteArray) ++ (strOfNums y102)).size ≤ 9223372036854775807 then (spec_Xtext.l0 k x0 (x2 ++ ((⟨#[43]⟩ : ByteArray) ++ (strOfNums y102))) (wrap64 (x4 + 1))) else (none)) else (none))) else (none)) else (none)) else (none)) else (none)))))) else (none)) else (some (x2, true))
def spec_Xtext.f (k : Nat) (a0 : ByteArray) : Option (ByteArray × Bool) := spec_Xtext.l0 k a0 (⟨#[]⟩ : ByteArray) 0
theorem spec_Xtext.mono_l : ∀ k, (∀ y0 y1 y2, LeO (spec_Xtext.l0 k y0 y1 y2) (spec_Xtext.l0 (k + 1) y0 y1 y2))
  | 0 => fun _ _ _ r h => by simp [spec_Xtext.l0] at h
  | k + 1 => by
    have ih0 := spec_Xtext.mono_l k
    · intro y0 y1 y2
      unfold spec_Xtext.l0
      repeat' first
      | (with_reducible exact ih0 _ _ _)
      | (with_reducible exact LeO.refl _)
      | (with_reducible exact LeO.none _)
      | (with_reducible refine LeO.ite ?_ ?_)
      | (with_reducible refine LeO.bind ?_ (fun _ => ?_))
      | exact ih0 _ _ _
      | exact LeO.none _
      | refine LeO.ite ?_ ?_
      | refine LeO.bind ?_ (fun _ => ?_)
theorem spec_Xtext.mono : ∀ a0 k, LeO (spec_Xtext.f k a0) (spec_Xtext.f (k + 1) a0) := by
  intro a0 k
  have ih0 := spec_Xtext.mono_l k
  unfold spec_Xtext.f
  repeat' first
      | (with_reducible exact ih0 _ _ _)
      | (with_reducible exact LeO.refl _)
      | (with_reducible exact LeO.none _)
      | (with_reducible refine LeO.ite ?_ ?_)
      | (with_reducible refine LeO.bind ?_ (fun _ => ?_))
      | exact ih0 _ _ _
      | exact LeO.none _
      | refine LeO.ite ?_ ?_
      | refine LeO.bind ?_ (fun _ => ?_)
def spec_Xtext.T9 : Bool × List (List Nat × List Nat) := (true, [([], []), ([], []), ([1], [1]), ([2], [2]), ([], []), ([4], [4]), ([5], [5]), ([3, 6], [3, 6]), ([7], [7]), ([8], [8]), ([0, 9], [0, 9]), ([10, 0, 1, 2, 3, 4, 5, 6, 7, 8, 9, 10], [0, 10])])
def spec_Xtext.B9 : List Nat := [0, 0, 2, 6, 0, 16, 48, 126, 254, 510, 1023, 2047]
theorem spec_Xtext.tab9 : rtab .any (opsOf Tryd.f7 9) = spec_Xtext.T9 := by kernel_rfl
theorem spec_Xtext.bits9 : waitsOk spec_Xtext.T9.2 spec_Xtext.B9 = true := by kernel_rfl
set_option maxHeartbeats 8000000 in
set_option maxRecDepth 100000 in
theorem spec_Xtext.calls (k : Nat) (a0 : ByteArray) (r1 : ByteArray) (r2 : Bool) (w : World) (h : spec_Xtext.f k a0 = some (r1, r2)) :
    Calls Tryd.prog 7 #[.string a0] w fun e w' => e = .returned (.tuple #[.string r1, .bool r2]) ∧ Below w.heap.size w w' := by
  have HB := Aside0.mk (Below.refl w.heap.size w)
  have H : (spec_Xtext.l0 k a0 (⟨#[]⟩ : ByteArray) 0) = some (r1, r2) := h
  clear h
  have H' := Aside0.mk H
  clear H
  go_enter Tryd.func7, Tryd.ntmps7
  go_wp2
  go_loopg [2, 4] k (fun kq v2 v4 w' => ∃ (x2_1 : ByteArray) (x4_1 : Int), v2 = .string x2_1 ∧ v4 = .int .i64 x4_1 ∧ Aside0 (spec_Xtext.l0 kq a0 x2_1 x4_1 = some (r1, r2)) ∧ Aside0 (kq ≤ k) ∧ Aside0 (Below w.heap.size w w'))
  case atStart => exact ⟨((⟨#[]⟩ : ByteArray)), (0), (by first | rfl | (simp; done) | (simp [*]; done)), (by first | rfl | (simp; done) | (simp [*]; done)), H', ⟨Nat.le_refl _⟩, ⟨by repeat (first | (with_reducible first | exact HB.out | apply below_alloc | apply pw_below_drewN | apply below_drew1) | exact HB.out)⟩⟩
  case round =>
    clear H'
    obtain ⟨x2_1, x4_1, rfl, rfl, HA, HK1, HB⟩ := hrel
    cases gk with
    | zero => exact absurd HA.out (by simp [spec_Xtext.l0])
    | succ k1 =>
      have H := HA.out
      clear HA
      simp only [spec_Xtext.l0] at H
      by_cases c2 : x4_1 < (a0.size : Int)
      · rw [if_pos c2] at H
        have c2b0 : decide (x4_1 < (a0.size : Int)) = true := decide_eq_true c2
        clear c2
        by_cases c3 : 0 ≤ x4_1
        · rw [if_pos c3] at H
          have c3b0 : decide (0 ≤ x4_1) = true := decide_eq_true c3
          clear c3
          replace H := Option.bind_eq_some_iff.mp H
          obtain ⟨t101, A50, H⟩ := H
          replace H : (if t101 = true then (if x4_1 ≤ (wrap64 (x4_1 + 1)) then (if (wrap64 (x4_1 + 1)) ≤ (a0.size : Int) then (if x2_1.size + (a0.extract (x4_1 : Int).toNat ((wrap64 (x4_1 + 1)) : Int).toNat).size ≤ 9223372036854775807 then (spec_Xtext.l0 k1 a0 (x2_1 ++ (a0.extract (x4_1 : Int).toNat ((wrap64 (x4_1 + 1)) : Int).toNat)) (wrap64 (x4_1 + 1))) else (none)) else (none)) else (none)) else (if (bt a0 x4_1) < 16 then (some ((⟨#[]⟩ : ByteArray), false)) else (if (bt a0 x4_1) ≥ 128 then (some ((⟨#[]⟩ : ByteArray), false)) else (if 0 ≤ ((bt a0 x4_1) / 16) then (if ((bt a0 x4_1) / 16) < 16 then (if 0 ≤ (Go.bits .and .u8 (bt a0 x4_1) 15) then (if (Go.bits .and .u8 (bt a0 x4_1) 15) < 16 then ((some (([bt (⟨#[48, 49, 50, 51, 52, 53, 54, 55, 56, 57, 65, 66, 67, 68, 69, 70]⟩ : ByteArray) ((bt a0 x4_1) / 16), bt (⟨#[48, 49, 50, 51, 52, 53, 54, 55, 56, 57, 65, 66, 67, 68, 69, 70]⟩ : ByteArray) (Go.bits .and .u8 (bt a0 x4_1) 15)] : List Int) : List Int)).bind fun y102 => (if 1 + (strOfNums y102).size ≤ 9223372036854775807 then (if x2_1.size + ((⟨#[43]⟩ : ByteArray) ++ (strOfNums y102)).size ≤ 9223372036854775807 then (spec_Xtext.l0 k1 a0 (x2_1 ++ ((⟨#[43]⟩ : ByteArray) ++ (strOfNums y102))) (wrap64 (x4_1 + 1))) else (none)) else (none))) else (none)) else (none)) else (none)) else (none))))) = some (r1, r2) := H
          have A5 := Aside0.mk A50
          clear A50
          by_cases c6 : t101 = true
          · subst c6
            have H1 : (if x4_1 ≤ (wrap64 (x4_1 + 1)) then (if (wrap64 (x4_1 + 1)) ≤ (a0.size : Int) then (if x2_1.size + (a0.extract (x4_1 : Int).toNat ((wrap64 (x4_1 + 1)) : Int).toNat).size ≤ 9223372036854775807 then (spec_Xtext.l0 k1 a0 (x2_1 ++ (a0.extract (x4_1 : Int).toNat ((wrap64 (x4_1 + 1)) : Int).toNat)) (wrap64 (x4_1 + 1))) else (none)) else (none)) else (none)) = some (r1, r2) := by rw [if_pos rfl] at H; exact H
            clear H
            have H := H1
            clear H1
            have c7b0 := eq_true (of_decide_eq_true (by first | (with_reducible assumption) | assumption) : 0 ≤ x4_1)
            by_cases c8 : x4_1 ≤ (wrap64 (x4_1 + 1))
            · rw [if_pos c8] at H
              have c8b0 := eq_true c8
              have c8b1 : decide (x4_1 ≤ (wrap64 (x4_1 + 1))) = true := decide_eq_true c8
              by_cases c9 : (wrap64 (x4_1 + 1)) ≤ (a0.size : Int)
              · rw [if_pos c9] at H
                have c9b0 := eq_true c9
                have c9b1 : decide ((wrap64 (x4_1 + 1)) ≤ (a0.size : Int)) = true := decide_eq_true c9
                by_cases c10 : x2_1.size + (a0.extract (x4_1 : Int).toNat ((wrap64 (x4_1 + 1)) : Int).toNat).size ≤ 9223372036854775807
                · rw [if_pos c10] at H
                  have c10b0 := eq_true c10
                  have c10b1 : decide (x2_1.size + (a0.extract (x4_1 : Int).toNat ((wrap64 (x4_1 + 1)) : Int).toNat).size ≤ 9223372036854775807) = true := decide_eq_true c10
                  try have c10b2 : (9223372036854775807 < x2_1.size + (a0.extract (x4_1 : Int).toNat ((wrap64 (x4_1 + 1)) : Int).toNat).size) = False := eq_false (Nat.not_lt.2 c10)
                  have H' := Aside0.mk H
                  clear H
                  have p4 : 0 ≤ (x4_1 : Int) := of_decide_eq_true (by first | (with_reducible assumption) | assumption)
                  have q4 : x4_1 < (a0.size : Int) := of_decide_eq_true (by first | (with_reducible assumption) | assumption)
                  have hx4 := bt_at a0 x4_1
                  replace p4 := eq_true p4
                  replace q4 := eq_true q4
                  go_wp2_with (first | ((with_reducible refine gate_callee (f := 9) rfl ?_); refine goesL_ (some 16) rfl rfl Tryd.func9 (by kernel_rfl) rfl #[.int .u8 (bt a0 x4_1)] rfl (by (try simp only [List.map_toArray, List.map_cons, List.map_nil]); first | done | rfl | (simp only [List.length_drop, List.length_take]; rfl)) ?_; (with_reducible refine (spec_plainX.calls (bt a0 x4_1) true _ A5.out).mono ?_); rintro e w' ⟨rfl, ⟨nd, rfl⟩⟩; refine ⟨_, rfl, ?_⟩))
                  go_roundg k1
                  case measure => have := HK1.out; omega
                  case rel => exact ⟨(x2_1 ++ (a0.extract (x4_1 : Int).toNat ((wrap64 (x4_1 + 1)) : Int).toNat)), (wrap64 (x4_1 + 1)), (by first | rfl | (simp; done) | (simp [*]; done)), (by first | rfl | (simp; done) | (simp [*]; done)), H', ⟨by have := HK1.out; omega⟩, ⟨by repeat (first | (with_reducible first | exact HB.out | apply below_alloc | apply pw_below_drewN | apply below_drew1) | exact HB.out)⟩⟩
                · rw [if_neg c10] at H
                  exact absurd H (by simp)
              · rw [if_neg c9] at H
                exact absurd H (by simp)
            · rw [if_neg c8] at H
              exact absurd H (by simp)
          · replace c6 := Bool.eq_false_iff.mpr c6
            subst c6
            have H1 : (if (bt a0 x4_1) < 16 then (some ((⟨#[]⟩ : ByteArray), false)) else (if (bt a0 x4_1) ≥ 128 then (some ((⟨#[]⟩ : ByteArray), false)) else (if 0 ≤ ((bt a0 x4_1) / 16) then (if ((bt a0 x4_1) / 16) < 16 then (if 0 ≤ (Go.bits .and .u8 (bt a0 x4_1) 15) then (if (Go.bits .and .u8 (bt a0 x4_1) 15) < 16 then ((some (([bt (⟨#[48, 49, 50, 51, 52, 53, 54, 55, 56, 57, 65, 66, 67, 68, 69, 70]⟩ : ByteArray) ((bt a0 x4_1) / 16), bt (⟨#[48, 49, 50, 51, 52, 53, 54, 55, 56, 57, 65, 66, 67, 68, 69, 70]⟩ : ByteArray) (Go.bits .and .u8 (bt a0 x4_1) 15)] : List Int) : List Int)).bind fun y102 => (if 1 + (strOfNums y102).size ≤ 9223372036854775807 then (if x2_1.size + ((⟨#[43]⟩ : ByteArray) ++ (strOfNums y102)).size ≤ 9223372036854775807 then (spec_Xtext.l0 k1 a0 (x2_1 ++ ((⟨#[43]⟩ : ByteArray) ++ (strOfNums y102))) (wrap64 (x4_1 + 1))) else (none)) else (none))) else (none)) else (none)) else (none)) else (none)))) = some (r1, r2) := by rw [if_neg (show ¬ (false = true) by decide)] at H; exact H
            clear H
            have H := H1
            clear H1
            by_cases c11 : (bt a0 x4_1) < 16
            · rw [if_pos c11] at H
              have c11b0 : decide ((bt a0 x4_1) < 16) = true := decide_eq_true c11
              clear c11
              simp only [Option.some.injEq, Prod.mk.injEq] at H
              obtain ⟨rfl, rfl⟩ := H
              have p4 : 0 ≤ (x4_1 : Int) := of_decide_eq_true (by first | (with_reducible assumption) | assumption)
              have q4 : x4_1 < (a0.size : Int) := of_decide_eq_true (by first | (with_reducible assumption) | assumption)
              have hx4 := bt_at a0 x4_1
              replace p4 := eq_true p4
              replace q4 := eq_true q4
              go_wp2_with (first | ((with_reducible refine gate_callee (f := 9) rfl ?_); refine goesL_ (some 16) rfl rfl Tryd.func9 (by kernel_rfl) rfl #[.int .u8 (bt a0 x4_1)] rfl (by (try simp only [List.map_toArray, List.map_cons, List.map_nil]); first | done | rfl | (simp only [List.length_drop, List.length_take]; rfl)) ?_; (with_reducible refine (spec_plainX.calls (bt a0 x4_1) false _ A5.out).mono ?_); rintro e w' ⟨rfl, ⟨nd, rfl⟩⟩; refine ⟨_, rfl, ?_⟩))
              go_ret2
              exact ⟨by first | rfl | (simp [errW_none, errW_some] <;> rfl) | (simp [*, errW_none, errW_some] <;> rfl), by repeat (first | (with_reducible first | exact HB.out | apply below_alloc | apply pw_below_drewN | apply below_drew1) | exact HB.out)⟩
            · rw [if_neg c11] at H
              have c11b0 : decide ((bt a0 x4_1) < 16) = false := decide_eq_false c11
              clear c11
              by_cases c12 : (bt a0 x4_1) ≥ 128
              · rw [if_pos c12] at H
                have c12b0 : decide (128 ≤ (bt a0 x4_1)) = true := decide_eq_true c12
                clear c12
                simp only [Option.some.injEq, Prod.mk.injEq] at H
                obtain ⟨rfl, rfl⟩ := H
                have p4 : 0 ≤ (x4_1 : Int) := of_decide_eq_true (by first | (with_reducible assumption) | assumption)
                have q4 : x4_1 < (a0.size : Int) := of_decide_eq_true (by first | (with_reducible assumption) | assumption)
                have hx4 := bt_at a0 x4_1
                replace p4 := eq_true p4
                replace q4 := eq_true q4
                go_wp2_with (first | ((with_reducible refine gate_callee (f := 9) rfl ?_); refine goesL_ (some 16) rfl rfl Tryd.func9 (by kernel_rfl) rfl #[.int .u8 (bt a0 x4_1)] rfl (by (try simp only [List.map_toArray, List.map_cons, List.map_nil]); first | done | rfl | (simp only [List.length_drop, List.length_take]; rfl)) ?_; (with_reducible refine (spec_plainX.calls (bt a0 x4_1) false _ A5.out).mono ?_); rintro e w' ⟨rfl, ⟨nd, rfl⟩⟩; refine ⟨_, rfl, ?_⟩))
                go_ret2
                exact ⟨by first | rfl | (simp [errW_none, errW_some] <;> rfl) | (simp [*, errW_none, errW_some] <;> rfl), by repeat (first | (with_reducible first | exact HB.out | apply below_alloc | apply pw_below_drewN | apply below_drew1) | exact HB.out)⟩
              · rw [if_neg c12] at H
                have c12b0 : decide (128 ≤ (bt a0 x4_1)) = false := decide_eq_false c12
                clear c12
                obtain ⟨ji13, hji13⟩ : ∃ j_ : Int, ((bt a0 x4_1) / 16) = j_ := ⟨_, rfl⟩
                replace H : (if 0 ≤ (ji13) then (if (ji13) < 16 then (if 0 ≤ (Go.bits .and .u8 (bt a0 x4_1) 15) then (if (Go.bits .and .u8 (bt a0 x4_1) 15) < 16 then ((some (([bt (⟨#[48, 49, 50, 51, 52, 53, 54, 55, 56, 57, 65, 66, 67, 68, 69, 70]⟩ : ByteArray) (ji13), bt (⟨#[48, 49, 50, 51, 52, 53, 54, 55, 56, 57, 65, 66, 67, 68, 69, 70]⟩ : ByteArray) (Go.bits .and .u8 (bt a0 x4_1) 15)] : List Int) : List Int)).bind fun y102 => (if 1 + (strOfNums y102).size ≤ 9223372036854775807 then (if x2_1.size + ((⟨#[43]⟩ : ByteArray) ++ (strOfNums y102)).size ≤ 9223372036854775807 then (spec_Xtext.l0 k1 a0 (x2_1 ++ ((⟨#[43]⟩ : ByteArray) ++ (strOfNums y102))) (wrap64 (x4_1 + 1))) else (none)) else (none))) else (none)) else (none)) else (none)) else (none)) = some (r1, r2) := by first | (rw [hji13] at H; exact H) | (simp only [hji13] at H ⊢; exact H)
                (try rw [hji13] at A5)
                by_cases c14 : 0 ≤ (ji13)
                · rw [if_pos c14] at H
                  have c14b0 : decide (0 ≤ (ji13)) = true := decide_eq_true c14
                  clear c14
                  by_cases c15 : (ji13) < 16
                  · rw [if_pos c15] at H
                    have c15b0 : decide ((ji13) < 16) = true := decide_eq_true c15
                    clear c15
                    by_cases c17 : 0 ≤ (Go.bits .and .u8 (bt a0 x4_1) 15)
                    · rw [if_pos c17] at H
                      have c17b0 : decide (0 ≤ (Go.bits .and .u8 (bt a0 x4_1) 15)) = true := decide_eq_true c17
                      clear c17
                      by_cases c18 : (Go.bits .and .u8 (bt a0 x4_1) 15) < 16
                      · rw [if_pos c18] at H
                        have c18b0 : decide ((Go.bits .and .u8 (bt a0 x4_1) 15) < 16) = true := decide_eq_true c18
                        clear c18
                        obtain ⟨y102, hy102⟩ : ∃ y_ : List Int, y_ = (([bt (⟨#[48, 49, 50, 51, 52, 53, 54, 55, 56, 57, 65, 66, 67, 68, 69, 70]⟩ : ByteArray) (ji13), bt (⟨#[48, 49, 50, 51, 52, 53, 54, 55, 56, 57, 65, 66, 67, 68, 69, 70]⟩ : ByteArray) (Go.bits .and .u8 (bt a0 x4_1) 15)] : List Int)) := ⟨_, rfl⟩
                        replace H : (if 1 + (strOfNums y102).size ≤ 9223372036854775807 then (if x2_1.size + ((⟨#[43]⟩ : ByteArray) ++ (strOfNums y102)).size ≤ 9223372036854775807 then (spec_Xtext.l0 k1 a0 (x2_1 ++ ((⟨#[43]⟩ : ByteArray) ++ (strOfNums y102))) (wrap64 (x4_1 + 1))) else (none)) else (none)) = some (r1, r2) := by first | (rw [hy102]; with_reducible exact H) | (have H2_ := (Option.bind_some _ _).symm.trans H; rw [hy102]; with_reducible exact H2_) | (have H2_ := (Option.bind_some _ _).symm.trans H; with_reducible exact H2_) | with_reducible exact H | (rw [hy102]; exact H) | exact H
                        have Ny102 := Aside0.mk hy102
                        clear hy102
                        by_cases c20 : 1 + (strOfNums y102).size ≤ 9223372036854775807
                        · rw [if_pos c20] at H
                          have c20b0 := eq_true c20
                          have c20b1 : decide (1 + (strOfNums y102).size ≤ 9223372036854775807) = true := decide_eq_true c20
                          try have c20b2 : (9223372036854775807 < 1 + (strOfNums y102).size) = False := eq_false (Nat.not_lt.2 c20)
                          by_cases c21 : x2_1.size + ((⟨#[43]⟩ : ByteArray) ++ (strOfNums y102)).size ≤ 9223372036854775807
                          · rw [if_pos c21] at H
                            have c21b0 := eq_true c21
                            have c21b1 : decide (x2_1.size + ((⟨#[43]⟩ : ByteArray) ++ (strOfNums y102)).size ≤ 9223372036854775807) = true := decide_eq_true c21
                            try have c21b2 : (9223372036854775807 < x2_1.size + ((⟨#[43]⟩ : ByteArray) ++ (strOfNums y102)).size) = False := eq_false (Nat.not_lt.2 c21)
                            have c21m : x2_1.size + (1 + (strOfNums y102).size) ≤ 9223372036854775807 := by have h := c21; rw [ByteArray.size_append] at h; exact h
                            have c21m0 := eq_true c21m
                            try have c21m2 : (9223372036854775807 < x2_1.size + (1 + (strOfNums y102).size)) = False := eq_false (Nat.not_lt.2 c21m)
                            have H' := Aside0.mk H
                            clear H
                            have p4 : 0 ≤ (x4_1 : Int) := of_decide_eq_true (by first | (with_reducible assumption) | assumption)
                            have q4 : x4_1 < (a0.size : Int) := of_decide_eq_true (by first | (with_reducible assumption) | assumption)
                            have hx4 := bt_at a0 x4_1
                            replace p4 := eq_true p4
                            replace q4 := eq_true q4
                            try go_wp2_with (first | ((with_reducible refine gate_callee (f := 9) rfl ?_); refine goesL_ (some 16) rfl rfl Tryd.func9 (by kernel_rfl) rfl #[.int .u8 (bt a0 x4_1)] rfl (by (try simp only [List.map_toArray, List.map_cons, List.map_nil]); first | done | rfl | (simp only [List.length_drop, List.length_take]; rfl)) ?_; (with_reducible refine (spec_plainX.calls (bt a0 x4_1) false _ A5.out).mono ?_); rintro e w' ⟨rfl, ⟨nd, rfl⟩⟩; refine ⟨_, rfl, ?_⟩))
                            (try (rw [drewN_self wr]; generalize hq_ : World.drewN wr _ = wr; have n0_ : Aside0 (Below w.heap.size w wr) := ⟨by rw [← hq_]; exact (by repeat (first | (with_reducible first | exact HB.out | apply below_alloc | apply pw_below_drewN | apply below_drew1) | exact HB.out))⟩; clear HB hq_; have HB := n0_; clear n0_))
                            have n0_ := Aside0.mk (below_drew1 HB.out)
                            clear HB
                            have HB := n0_
                            clear n0_
                            have p16 : 0 ≤ ((ji13) : Int) := of_decide_eq_true (by first | (with_reducible assumption) | assumption)
                            have q16 : (ji13) < (16 : Int) := of_decide_eq_true (by first | (with_reducible assumption) | assumption)
                            have hx16 := bt_at (⟨#[48, 49, 50, 51, 52, 53, 54, 55, 56, 57, 65, 66, 67, 68, 69, 70]⟩ : ByteArray) (ji13)
                            replace p16 := eq_true p16
                            replace q16 := eq_true q16
                            have p19 : 0 ≤ ((Go.bits .and .u8 (bt a0 x4_1) 15) : Int) := of_decide_eq_true (by first | (with_reducible assumption) | assumption)
                            have q19 : (Go.bits .and .u8 (bt a0 x4_1) 15) < (16 : Int) := of_decide_eq_true (by first | (with_reducible assumption) | assumption)
                            have hx19 := bt_at (⟨#[48, 49, 50, 51, 52, 53, 54, 55, 56, 57, 65, 66, 67, 68, 69, 70]⟩ : ByteArray) (Go.bits .and .u8 (bt a0 x4_1) 15)
                            replace p19 := eq_true p19
                            replace q19 := eq_true q19
                            refine start_ (n := 12) (S := fun w' => True) (ds := []) #[false, false, false, false, false, false, false, false, false, false, false, false] (by kernel_rfl) rfl rfl trivial (fun hHeld => ?_); refine with_tabW spec_Xtext.tab9 spec_Xtext.bits9 (fun HT_ HW_ => ?_)
                            generalize wr.drew = w22 at HB hHeld ⊢
                            refine pure_ (i := 0) (N := some 30) (v := ?_) (a' := ?_) #[true, false, false, false, false, false, false, false, false, false, false, false] rfl rfl (any_of HT_.out (by kernel_rfl)) (fun _ _ _ h => h) (Or.inl ⟨by rfl, ?_⟩) ?_ ?_
                            rotate_left
                            · intro w'
                              go_simp
                              with_reducible rfl
                            rotate_left
                            · simp only [Act.put, List.setIfInBounds_toArray, List.set_cons_zero, List.set_cons_succ, i64_w, i32_w]
                              rfl
                            refine pure_ (i := 1) (N := some 31) (v := ?_) (a' := ?_) #[true, true, false, false, false, false, false, false, false, false, false, false] rfl rfl (any_of HT_.out (by kernel_rfl)) (fun _ _ _ h => h) (Or.inl ⟨by rfl, ?_⟩) ?_ ?_
                            rotate_left
                            · intro w'
                              go_simp
                              with_reducible rfl
                            rotate_left
                            · simp only [Act.put, List.setIfInBounds_toArray, List.set_cons_zero, List.set_cons_succ, i64_w, i32_w]
                              rfl
                            refine pure_ (i := 2) (N := some 32) (v := ?_) (a' := ?_) #[true, true, true, false, false, false, false, false, false, false, false, false] rfl rfl (any_of HT_.out (by kernel_rfl)) (fun _ _ _ h => h) (Or.inl ⟨by rfl, ?_⟩) ?_ ?_
                            rotate_left
                            · intro w'
                              go_simp
                              with_reducible rfl
                            rotate_left
                            · simp only [Act.put, List.setIfInBounds_toArray, List.set_cons_zero, List.set_cons_succ, i64_w, i32_w]
                              rfl
                            refine pure_ (i := 4) (N := some 34) (v := ?_) (a' := ?_) #[true, true, true, false, true, false, false, false, false, false, false, false] rfl rfl (any_of HT_.out (by kernel_rfl)) (fun _ _ _ h => h) (Or.inl ⟨by rfl, ?_⟩) ?_ ?_
                            rotate_left
                            · intro w'
                              go_simp
                              with_reducible rfl
                            rotate_left
                            · simp only [Act.put, List.setIfInBounds_toArray, List.set_cons_zero, List.set_cons_succ, i64_w, i32_w]
                              rfl
                            refine pure_ (i := 5) (N := some 35) (v := ?_) (a' := ?_) #[true, true, true, false, true, true, false, false, false, false, false, false] rfl rfl (any_of HT_.out (by kernel_rfl)) (fun _ _ _ h => h) (Or.inl ⟨by rfl, ?_⟩) ?_ ?_
                            rotate_left
                            · intro w'
                              go_simp
                              with_reducible rfl
                            rotate_left
                            · simp only [Act.put, List.setIfInBounds_toArray, List.set_cons_zero, List.set_cons_succ, i64_w, i32_w]
                              rfl
                            refine take_ (i := 3) (N := some 33) (v := ?_) (a' := ?_) #[true, true, true, true, true, true, false, false, false, false, false, false] rfl rfl (take_ofW HT_.out HW_.out (by kernel_rfl)) (fun _ _ _ h => h) (Or.inl ⟨by rfl, ?_⟩) hHeld ?_ ?_
                            rotate_left
                            · intro w' _
                              go_simp
                              with_reducible rfl
                            rotate_left
                            · simp only [Act.put, List.setIfInBounds_toArray, List.set_cons_zero, List.set_cons_succ, i64_w, i32_w]
                              rfl
                            refine take_ (i := 6) (N := some 36) (v := ?_) (a' := ?_) #[true, true, true, true, true, true, true, false, false, false, false, false] rfl rfl (take_ofW HT_.out HW_.out (by kernel_rfl)) (fun _ _ _ h => h) (Or.inl ⟨by rfl, ?_⟩) hHeld ?_ ?_
                            rotate_left
                            · intro w' _
                              go_simp
                              with_reducible rfl
                            rotate_left
                            · simp only [Act.put, List.setIfInBounds_toArray, List.set_cons_zero, List.set_cons_succ, i64_w, i32_w]
                              rfl
                            refine one_ (i := 7) (N := some 37) #[true, true, true, true, true, true, true, true, false, false, false, false] rfl rfl (one_of HT_.out (by kernel_rfl)) (by decide) (fun K hK => ?_)
                            refine Kd.R_lit_step (Kd.int .u8) _ 5 ?hg (N := 37) ?hd (xs := ([bt (⟨#[48, 49, 50, 51, 52, 53, 54, 55, 56, 57, 65, 66, 67, 68, 69, 70]⟩ : ByteArray) (ji13), bt (⟨#[48, 49, 50, 51, 52, 53, 54, 55, 56, 57, 65, 66, 67, 68, 69, 70]⟩ : ByteArray) (Go.bits .and .u8 (bt a0 x4_1) 15)] : List Int)) (inner := [.int .u8 (bt (⟨#[48, 49, 50, 51, 52, 53, 54, 55, 56, 57, 65, 66, 67, 68, 69, 70]⟩ : ByteArray) (ji13)), .int .u8 (bt (⟨#[48, 49, 50, 51, 52, 53, 54, 55, 56, 57, 65, 66, 67, 68, 69, 70]⟩ : ByteArray) (Go.bits .and .u8 (bt a0 x4_1) 15))]) (ok := fun _ => True) (okp := fun _ => True) ?hr ?hp (fun _ hk => hk) trivial (Below.refl _ _) (Nat.le_refl _) (by simp) ?_; (case hd => rfl); (case hg => rfl); (case hr => first | (go_simp; done) | (go_simp; rfl)); (case hp => exact (Reps.one (show Kd.M (Kd.int .u8) _ _ _ (bt (⟨#[48, 49, 50, 51, 52, 53, 54, 55, 56, 57, 65, 66, 67, 68, 69, 70]⟩ : ByteArray) (ji13)) [.int .u8 (bt (⟨#[48, 49, 50, 51, 52, 53, 54, 55, 56, 57, 65, 66, 67, 68, 69, 70]⟩ : ByteArray) (ji13))] from rfl) (Reps.one (show Kd.M (Kd.int .u8) _ _ _ (bt (⟨#[48, 49, 50, 51, 52, 53, 54, 55, 56, 57, 65, 66, 67, 68, 69, 70]⟩ : ByteArray) (Go.bits .and .u8 (bt a0 x4_1) 15)) [.int .u8 (bt (⟨#[48, 49, 50, 51, 52, 53, 54, 55, 56, 57, 65, 66, 67, 68, 69, 70]⟩ : ByteArray) (Go.bits .and .u8 (bt a0 x4_1) 15))] from rfl) (Reps.none _ _))))
                            intro v103 w23 ho24 hb hg_ hnew_
                            clear hg_ hnew_
                            (first | rw [← Ny102.out] at ho24 | (simp only [Int.reduceToNat] at ho24; rw [← Ny102.out] at ho24))
                            have n0_ := Aside0.mk (Kd.R_lower ho24 (below_size (by repeat (first | (with_reducible first | exact HB.out | apply below_alloc | apply pw_below_drewN | apply below_drew1) | exact HB.out))))
                            have n1_ := Aside0.mk (below_step (by repeat (first | (with_reducible first | exact HB.out | apply below_alloc | apply pw_below_drewN | apply below_drew1) | exact HB.out)) hb)
                            clear HB
                            have HO104 := n0_
                            have HB := n1_
                            clear n0_ n1_
                            clear hb ho24
                            refine hK.out _ _ trivial (fun hHeld => ?_)
                            clear hK K
                            refine norm_ (a' := ?_) ?_ ?_
                            rotate_left
                            · show Act.put _ (some 37) _ = _
                              simp only [Act.put, List.setIfInBounds_toArray, List.set_cons_zero, List.set_cons_succ, i64_w, i32_w]
                              rfl
                            refine one_ (i := 8) (N := some 38) #[true, true, true, true, true, true, true, true, true, false, false, false] rfl rfl (one_of HT_.out (by kernel_rfl)) (by decide) (fun K hK => ?_)
                            have hcv25 := own_string (P := Tryd.prog) Tryd.underlying32 Tryd.underlying5 Tryd.underlying9 (Kd.own_of_R HO104.out)
                            refine value_ (w1 := ?_) (v := ?_) (by rfl) rfl ?_ ?_
                            rotate_left 2
                            · go_simp
                              constructor
                              · rfl
                              · rfl
                            clear hcv25
                            refine hK.out _ _ trivial (fun hHeld => ?_)
                            clear hK K
                            refine norm_ (a' := ?_) ?_ ?_
                            rotate_left
                            · show Act.put _ (some 38) _ = _
                              simp only [Act.put, List.setIfInBounds_toArray, List.set_cons_zero, List.set_cons_succ, i64_w, i32_w]
                              rfl
                            refine pure_ (i := 9) (N := some 39) (v := ?_) (a' := ?_) #[true, true, true, true, true, true, true, true, true, true, false, false] rfl rfl (any_of HT_.out (by kernel_rfl)) (fun _ _ _ h => h) (Or.inl ⟨by rfl, ?_⟩) ?_ ?_
                            rotate_left
                            · intro w'
                              go_simp
                              with_reducible rfl
                            rotate_left
                            · simp only [Act.put, List.setIfInBounds_toArray, List.set_cons_zero, List.set_cons_succ, i64_w, i32_w]
                              rfl
                            refine pure_ (i := 10) (N := some 40) (v := ?_) (a' := ?_) #[true, true, true, true, true, true, true, true, true, true, true, false] rfl rfl (any_of HT_.out (by kernel_rfl)) (fun _ _ _ h => h) (Or.inl ⟨by rfl, ?_⟩) ?_ ?_
                            rotate_left
                            · intro w'
                              go_simp
                              with_reducible rfl
                            rotate_left
                            · simp only [Act.put, List.setIfInBounds_toArray, List.set_cons_zero, List.set_cons_succ, i64_w, i32_w]
                              rfl
                            refine pure_ (i := 11) (N := some 2) (v := ?_) (a' := ?_) #[true, true, true, true, true, true, true, true, true, true, true, true] rfl rfl (any_of HT_.out (by kernel_rfl)) (fun _ _ _ h => h) (Or.inl ⟨by rfl, ?_⟩) ?_ ?_
                            rotate_left
                            · intro w'
                              go_simp
                              with_reducible rfl
                            rotate_left
                            · simp only [Act.put, List.setIfInBounds_toArray, List.set_cons_zero, List.set_cons_succ, i64_w, i32_w]
                              rfl
                            refine done_ (done_of HT_.out (by kernel_rfl)) ?_
                            try go_wp2
                            go_roundg k1
                            case measure => have := HK1.out; omega
                            case rel => exact ⟨(x2_1 ++ ((⟨#[43]⟩ : ByteArray) ++ (strOfNums y102))), (wrap64 (x4_1 + 1)), (by first | rfl | (simp; done) | (simp [*]; done)), (by first | rfl | (simp; done) | (simp [*]; done)), (by first | exact H' | (rw [hji13]; exact H') | (simp only [hji13]; exact H')), ⟨by have := HK1.out; omega⟩, ⟨by repeat (first | (with_reducible first | exact HB.out | apply below_alloc | apply pw_below_drewN | apply below_drew1) | exact HB.out)⟩⟩
                          · rw [if_neg c21] at H
                            exact absurd H (by simp)
                        · rw [if_neg c20] at H
                          exact absurd H (by simp)
                      · rw [if_neg c18] at H
                        exact absurd H (by simp)
                    · rw [if_neg c17] at H
                      exact absurd H (by simp)
                  · rw [if_neg c15] at H
                    exact absurd H (by simp)
                · rw [if_neg c14] at H
                  exact absurd H (by simp)
        · rw [if_neg c3] at H
          exact absurd H (by simp)
      · rw [if_neg c2] at H
        have c2b0 : decide (x4_1 < (a0.size : Int)) = false := decide_eq_false c2
        clear c2
        simp only [Option.some.injEq, Prod.mk.injEq] at H
        obtain ⟨rfl, rfl⟩ := H
        go_wp2
        go_ret2
        exact ⟨by first | rfl | (simp [errW_none, errW_some] <;> rfl) | (simp [*, errW_none, errW_some] <;> rfl), by repeat (first | (with_reducible first | exact HB.out | apply below_alloc | apply pw_below_drewN | apply below_drew1) | exact HB.out)⟩

/-! ### laws_FnXtext: function 4 -/
def laws_FnXtext.j0 : Nat → ByteArray → ByteArray → Bool → Option (Bool)
  | 0, _, _, _ => none
  | k + 1, x0, x3, x21 => if x21 = true then (some true) else ((Own.impl_UnxtextE.f x3).bind fun bt107 => ((Own.impl_Xtext.f x0).bind fun t109 => (if t109.toList = x3.toList then (if bt107.2 = true then (some (bt107.1.toList == x0.toList)) else (some false)) else (some false))))
def laws_FnXtext.f (k : Nat) (a0 : ByteArray) : Option (Bool) := if (a0.size : Int) > 2147483647 then (some true) else ((spec_Xtext.f k a0).bind fun bt105 => (if bt105.2 = true then (laws_FnXtext.j0 k a0 bt105.1 (decide ((a0.size : Int) > 300))) else (laws_FnXtext.j0 k a0 bt105.1 true)))
theorem laws_FnXtext.mono_l : ∀ k, (∀ y0 y1 y2, LeO (laws_FnXtext.j0 k y0 y1 y2) (laws_FnXtext.j0 (k + 1) y0 y1 y2))
  | 0 => fun _ _ _ r h => by simp [laws_FnXtext.j0] at h
  | k + 1 => by
    have ih0 := laws_FnXtext.mono_l k
    · intro y0 y1 y2
      unfold laws_FnXtext.j0
      repeat' first
      | (with_reducible exact ih0 _ _ _)
      | (with_reducible exact spec_Xtext.mono _ _)
      | (with_reducible exact LeO.refl _)
      | (with_reducible exact LeO.none _)
      | (with_reducible refine LeO.ite ?_ ?_)
      | (with_reducible refine LeO.bind ?_ (fun _ => ?_))
      | exact ih0 _ _ _
      | exact spec_Xtext.mono _ _
      | exact LeO.none _
      | refine LeO.ite ?_ ?_
      | refine LeO.bind ?_ (fun _ => ?_)
theorem laws_FnXtext.mono : ∀ a0 k, LeO (laws_FnXtext.f k a0) (laws_FnXtext.f (k + 1) a0) := by
  intro a0 k
  have ih0 := laws_FnXtext.mono_l k
  unfold laws_FnXtext.f
  repeat' first
      | (with_reducible exact ih0 _ _ _)
      | (with_reducible exact spec_Xtext.mono _ _)
      | (with_reducible exact LeO.refl _)
      | (with_reducible exact LeO.none _)
      | (with_reducible refine LeO.ite ?_ ?_)
      | (with_reducible refine LeO.bind ?_ (fun _ => ?_))
      | exact ih0 _ _ _
      | exact spec_Xtext.mono _ _
      | exact LeO.none _
      | refine LeO.ite ?_ ?_
      | refine LeO.bind ?_ (fun _ => ?_)
set_option maxHeartbeats 8000000 in
set_option maxRecDepth 100000 in
theorem laws_FnXtext.calls (k : Nat) (a0 : ByteArray) (r : Bool) (w : World) (h : laws_FnXtext.f k a0 = some r) (henv : Own.EnvXe w) :
    Calls Tryd.prog 4 #[.string a0] w fun e w' => e = .returned (.bool r) ∧ Below w.heap.size w w' := by
  have HENV := Aside0.mk henv.all
  clear henv
  have HB := Aside0.mk (Below.refl w.heap.size w)
  have H : (if (a0.size : Int) > 2147483647 then (some true) else ((spec_Xtext.f k a0).bind fun bt105 => (if bt105.2 = true then (laws_FnXtext.j0 k a0 bt105.1 (decide ((a0.size : Int) > 300))) else (laws_FnXtext.j0 k a0 bt105.1 true)))) = some r := h
  clear h
  by_cases c2 : (a0.size : Int) > 2147483647
  · rw [if_pos c2] at H
    have c2b0 : decide (2147483647 < (a0.size : Int)) = true := decide_eq_true c2
    have c2b1 : decide (2147483647 < a0.size) = true := decide_eq_true (by omega)
    clear c2
    obtain rfl := Option.some.inj H
    go_enter Tryd.func4, Tryd.ntmps4
    go_wp2
    go_ret
    exact ⟨by first | rfl | (simp [errW_none, errW_some] <;> rfl) | (simp [*, errW_none, errW_some] <;> rfl), by repeat (first | (with_reducible first | exact HB.out | apply below_alloc | apply pw_below_drewN | apply below_drew1) | exact HB.out)⟩
  · rw [if_neg c2] at H
    have c2b0 : decide (2147483647 < (a0.size : Int)) = false := decide_eq_false c2
    have c2b1 : decide (2147483647 < a0.size) = false := decide_eq_false (by omega)
    clear c2
    replace H := Option.bind_eq_some_iff.mp H
    obtain ⟨⟨t105, t106⟩, A30, H⟩ := H
    replace H : (if t106 = true then (laws_FnXtext.j0 k a0 t105 (decide ((a0.size : Int) > 300))) else (laws_FnXtext.j0 k a0 t105 true)) = some r := H
    have A3 := Aside0.mk A30
    clear A30
    have HC4 := Aside0.mk H
    clear H
    go_enter Tryd.func4, Tryd.ntmps4
    go_upto_region 4 with (first | ((with_reducible refine gate_callee (f := 7) rfl ?_); refine goesL_ (some 12) rfl rfl Tryd.func7 (by kernel_rfl) rfl #[.string a0] rfl (by (try simp only [List.map_toArray, List.map_cons, List.map_nil]); first | done | rfl | (simp only [List.length_drop, List.length_take]; rfl)) ?_; (with_reducible refine (spec_Xtext.calls k a0 t105 t106 _ A3.out).mono ?_); rintro e w5 ⟨rfl, hb⟩; refine ⟨_, rfl, ?_⟩; have n0_ := Aside0.mk (below_step (by repeat (first | (with_reducible first | exact HB.out | apply below_alloc | apply pw_below_drewN | apply below_drew1) | exact HB.out)) hb); clear HB; have HB := n0_; clear n0_; (try clear hb); (try clear hb2); (try clear hk); (try clear hi)))
    (try simp only [Act.put, List.setIfInBounds_toArray, List.set_cons_zero, List.set_cons_succ])
    go_cut [21] (fun v21 wc => ∃ (kq : Nat) (x21_3 : Bool), v21 = .bool x21_3 ∧ Aside0 (laws_FnXtext.j0 kq a0 t105 x21_3 = some r) ∧ Aside0 (kq ≤ k) ∧ Aside0 (Below w.heap.size w wc))
    case first =>
      have H := HC4.out
      clear HC4
      by_cases c6 : t106 = true
      · subst c6
        have H1 : (laws_FnXtext.j0 k a0 t105 (decide ((a0.size : Int) > 300))) = some r := by rw [if_pos rfl] at H; exact H
        clear H
        have H := H1
        clear H1
        have H' := Aside0.mk H
        clear H
        go_wp2
        go_meet
        case rel => exact ⟨_, (decide ((a0.size : Int) > 300)), (by first | rfl | (simp; done) | (simp [*]; done)), H', ⟨by first | omega | exact Nat.le_refl _⟩, ⟨by repeat (first | (with_reducible first | exact HB.out | apply below_alloc | apply pw_below_drewN | apply below_drew1) | exact HB.out)⟩⟩
      · replace c6 := Bool.eq_false_iff.mpr c6
        subst c6
        have H1 : (laws_FnXtext.j0 k a0 t105 true) = some r := by rw [if_neg (show ¬ (false = true) by decide)] at H; exact H
        clear H
        have H := H1
        clear H1
        have H' := Aside0.mk H
        clear H
        go_wp2
        go_meet
        case rel => exact ⟨_, (true), (by first | rfl | (simp; done) | (simp [*]; done)), H', ⟨by first | omega | exact Nat.le_refl _⟩, ⟨by repeat (first | (with_reducible first | exact HB.out | apply below_alloc | apply pw_below_drewN | apply below_drew1) | exact HB.out)⟩⟩
    case rest =>
      clear HC4
      try clear c2
      try clear c2b0
      try clear c2b1
      try clear p2
      try clear c4
      try clear c6
      obtain ⟨kq, x21_3, rfl, HA, HJ3, HB⟩ := hcut
      cases kq with
      | zero => exact absurd HA.out (by simp [laws_FnXtext.j0])
      | succ kj3 =>
        have H := HA.out
        clear HA
        simp only [laws_FnXtext.j0] at H
        by_cases c7 : x21_3 = true
        · subst c7
          have H1 : (some true) = some r := by rw [if_pos rfl] at H; exact H
          clear H
          have H := H1
          clear H1
          obtain rfl := Option.some.inj H
          go_wp2
          go_ret
          exact ⟨by first | rfl | (simp [errW_none, errW_some] <;> rfl) | (simp [*, errW_none, errW_some] <;> rfl), by repeat (first | (with_reducible first | exact HB.out | apply below_alloc | apply pw_below_drewN | apply below_drew1) | exact HB.out)⟩
        · replace c7 := Bool.eq_false_iff.mpr c7
          subst c7
          have H1 : ((Own.impl_UnxtextE.f t105).bind fun bt107 => ((Own.impl_Xtext.f a0).bind fun t109 => (if t109.toList = t105.toList then (if bt107.2 = true then (some (bt107.1.toList == a0.toList)) else (some false)) else (some false)))) = some r := by rw [if_neg (show ¬ (false = true) by decide)] at H; exact H
          clear H
          have H := H1
          clear H1
          replace H := Option.bind_eq_some_iff.mp H
          obtain ⟨⟨t107, t108⟩, A80, H⟩ := H
          replace H : ((Own.impl_Xtext.f a0).bind fun t109 => (if t109.toList = t105.toList then (if t108 = true then (some (t107.toList == a0.toList)) else (some false)) else (some false))) = some r := H
          have A8 := Aside0.mk A80
          clear A80
          replace H := Option.bind_eq_some_iff.mp H
          obtain ⟨t109, A90, H⟩ := H
          replace H : (if t109.toList = t105.toList then (if t108 = true then (some (t107.toList == a0.toList)) else (some false)) else (some false)) = some r := H
          have A9 := Aside0.mk A90
          clear A90
          by_cases c10 : t109.toList = t105.toList
          · rw [if_pos c10] at H
            have c10b0 : (t109.toList == t105.toList) = true := beq_iff_eq.mpr c10
            have c10b1 : (t109.toList != t105.toList) = false := bne_eq_false_iff_eq.mpr c10
            clear c10
            by_cases c11 : t108 = true
            · subst c11
              have H1 : (some (t107.toList == a0.toList)) = some r := by rw [if_pos rfl] at H; exact H
              clear H
              have H := H1
              clear H1
              obtain rfl := Option.some.inj H
              go_wp2_with (first | ((with_reducible refine gate_callee (f := 6) rfl ?_); refine goesL_ (some 24) rfl rfl Tryd.func6 (by kernel_rfl) rfl #[.string t105] rfl (by (try simp only [List.map_toArray, List.map_cons, List.map_nil]); first | done | rfl | (simp only [List.length_drop, List.length_take]; rfl)) ?_; (with_reducible refine (Own.impl_UnxtextE.calls t105 t107 true _ A8.out (HENV.out _ (by repeat (first | (with_reducible first | exact HB.out | apply below_alloc | apply pw_below_drewN | apply below_drew1) | exact HB.out)))).mono ?_); rintro e w12 ⟨rfl, hb⟩; refine ⟨_, rfl, ?_⟩; have n0_ := Aside0.mk (below_step (by repeat (first | (with_reducible first | exact HB.out | apply below_alloc | apply pw_below_drewN | apply below_drew1) | exact HB.out)) hb); clear HB; have HB := n0_; clear n0_; (try clear hb); (try clear hb2); (try clear hk); (try clear hi)) | ((with_reducible refine gate_callee (f := 8) rfl ?_); refine goesL_ (some 28) rfl rfl Tryd.func8 (by kernel_rfl) rfl #[.string a0] rfl (by (try simp only [List.map_toArray, List.map_cons, List.map_nil]); first | done | rfl | (simp only [List.length_drop, List.length_take]; rfl)) ?_; (with_reducible refine (Own.impl_Xtext.calls a0 t109 _ A9.out (HENV.out _ (by repeat (first | (with_reducible first | exact HB.out | apply below_alloc | apply pw_below_drewN | apply below_drew1) | exact HB.out)))).mono ?_); rintro e w13 ⟨rfl, hb⟩; refine ⟨_, rfl, ?_⟩; have n0_ := Aside0.mk (below_step (by repeat (first | (with_reducible first | exact HB.out | apply below_alloc | apply pw_below_drewN | apply below_drew1) | exact HB.out)) hb); clear HB; have HB := n0_; clear n0_; (try clear hb); (try clear hb2); (try clear hk); (try clear hi)))
              go_ret
              exact ⟨by first | rfl | (simp [errW_none, errW_some] <;> rfl) | (simp [*, errW_none, errW_some] <;> rfl), by repeat (first | (with_reducible first | exact HB.out | apply below_alloc | apply pw_below_drewN | apply below_drew1) | exact HB.out)⟩
            · replace c11 := Bool.eq_false_iff.mpr c11
              subst c11
              have H1 : (some false) = some r := by rw [if_neg (show ¬ (false = true) by decide)] at H; exact H
              clear H
              have H := H1
              clear H1
              obtain rfl := Option.some.inj H
              go_wp2_with (first | ((with_reducible refine gate_callee (f := 6) rfl ?_); refine goesL_ (some 24) rfl rfl Tryd.func6 (by kernel_rfl) rfl #[.string t105] rfl (by (try simp only [List.map_toArray, List.map_cons, List.map_nil]); first | done | rfl | (simp only [List.length_drop, List.length_take]; rfl)) ?_; (with_reducible refine (Own.impl_UnxtextE.calls t105 t107 false _ A8.out (HENV.out _ (by repeat (first | (with_reducible first | exact HB.out | apply below_alloc | apply pw_below_drewN | apply below_drew1) | exact HB.out)))).mono ?_); rintro e w14 ⟨rfl, hb⟩; refine ⟨_, rfl, ?_⟩; have n0_ := Aside0.mk (below_step (by repeat (first | (with_reducible first | exact HB.out | apply below_alloc | apply pw_below_drewN | apply below_drew1) | exact HB.out)) hb); clear HB; have HB := n0_; clear n0_; (try clear hb); (try clear hb2); (try clear hk); (try clear hi)) | ((with_reducible refine gate_callee (f := 8) rfl ?_); refine goesL_ (some 28) rfl rfl Tryd.func8 (by kernel_rfl) rfl #[.string a0] rfl (by (try simp only [List.map_toArray, List.map_cons, List.map_nil]); first | done | rfl | (simp only [List.length_drop, List.length_take]; rfl)) ?_; (with_reducible refine (Own.impl_Xtext.calls a0 t109 _ A9.out (HENV.out _ (by repeat (first | (with_reducible first | exact HB.out | apply below_alloc | apply pw_below_drewN | apply below_drew1) | exact HB.out)))).mono ?_); rintro e w15 ⟨rfl, hb⟩; refine ⟨_, rfl, ?_⟩; have n0_ := Aside0.mk (below_step (by repeat (first | (with_reducible first | exact HB.out | apply below_alloc | apply pw_below_drewN | apply below_drew1) | exact HB.out)) hb); clear HB; have HB := n0_; clear n0_; (try clear hb); (try clear hb2); (try clear hk); (try clear hi)))
              go_ret
              exact ⟨by first | rfl | (simp [errW_none, errW_some] <;> rfl) | (simp [*, errW_none, errW_some] <;> rfl), by repeat (first | (with_reducible first | exact HB.out | apply below_alloc | apply pw_below_drewN | apply below_drew1) | exact HB.out)⟩
          · rw [if_neg c10] at H
            have c10b0 : (t109.toList == t105.toList) = false := beq_eq_false_iff_ne.mpr c10
            have c10b1 : (t109.toList != t105.toList) = true := bne_iff_ne.mpr c10
            obtain rfl := Option.some.inj H
            go_wp2_with (first | ((with_reducible refine gate_callee (f := 6) rfl ?_); refine goesL_ (some 24) rfl rfl Tryd.func6 (by kernel_rfl) rfl #[.string t105] rfl (by (try simp only [List.map_toArray, List.map_cons, List.map_nil]); first | done | rfl | (simp only [List.length_drop, List.length_take]; rfl)) ?_; (with_reducible refine (Own.impl_UnxtextE.calls t105 t107 t108 _ A8.out (HENV.out _ (by repeat (first | (with_reducible first | exact HB.out | apply below_alloc | apply pw_below_drewN | apply below_drew1) | exact HB.out)))).mono ?_); rintro e w16 ⟨rfl, hb⟩; refine ⟨_, rfl, ?_⟩; have n0_ := Aside0.mk (below_step (by repeat (first | (with_reducible first | exact HB.out | apply below_alloc | apply pw_below_drewN | apply below_drew1) | exact HB.out)) hb); clear HB; have HB := n0_; clear n0_; (try clear hb); (try clear hb2); (try clear hk); (try clear hi)) | ((with_reducible refine gate_callee (f := 8) rfl ?_); refine goesL_ (some 28) rfl rfl Tryd.func8 (by kernel_rfl) rfl #[.string a0] rfl (by (try simp only [List.map_toArray, List.map_cons, List.map_nil]); first | done | rfl | (simp only [List.length_drop, List.length_take]; rfl)) ?_; (with_reducible refine (Own.impl_Xtext.calls a0 t109 _ A9.out (HENV.out _ (by repeat (first | (with_reducible first | exact HB.out | apply below_alloc | apply pw_below_drewN | apply below_drew1) | exact HB.out)))).mono ?_); rintro e w17 ⟨rfl, hb⟩; refine ⟨_, rfl, ?_⟩; have n0_ := Aside0.mk (below_step (by repeat (first | (with_reducible first | exact HB.out | apply below_alloc | apply pw_below_drewN | apply below_drew1) | exact HB.out)) hb); clear HB; have HB := n0_; clear n0_; (try clear hb); (try clear hb2); (try clear hk); (try clear hi)))
            go_ret
            exact ⟨by first | rfl | (simp [errW_none, errW_some] <;> rfl) | (simp [*, errW_none, errW_some] <;> rfl), by repeat (first | (with_reducible first | exact HB.out | apply below_alloc | apply pw_below_drewN | apply below_drew1) | exact HB.out)⟩

/-- THE ONE PURE STATEMENT of laws_FnXtext: yours. -/
def laws_FnXtext.Pure : Prop := ∀ (a0 : ByteArray), a0.size ≤ 140737488351232 → ∃ k, laws_FnXtext.f k a0 = some true
theorem laws_FnXtext.walk (P : laws_FnXtext.Pure) (a0 : ByteArray) (w : World) (w0 : a0.size ≤ 140737488351232) (henv : Own.EnvXe w) :
    Calls Tryd.prog 4 #[.string a0] w fun e w' => e = .returned (.bool true) ∧ Below w.heap.size w w' := by
  obtain ⟨k, h⟩ := P a0 w0
  refine (laws_FnXtext.calls k a0 true w h henv).mono ?_
  rintro e w' ⟨rfl, hd⟩
  exact ⟨rfl, hd⟩

end Go.Proofs.YtoeggcckcnlllaaDoor.PFnXtext
